/- The law FnTuplesOf holds for every list of tuples and every choice of ways: the bytes that are written are read again as the same tuples. Condition: none (the statement's own bounds on sizes lie in the law). -/
import Derived.Lib.IndexLaws
import Derived.Laws.BitsLemmas
import Derived.Test.YtchkmmbedgolbaaPFnTuplesOfx1
import Derived.Test.YtchkmmbedgolbaaPFnTuplesOfx2
import Derived.Test.YtchkmmbedgolbaaPFnTuplesOfx3
import Derived.Test.YtchkmmbedgolbaaPFnTuplesOfx4
import Derived.Test.YtchkmmbedgolbaaPFnTuplesOfx5
import Derived.Test.YtchkmmbedgolbaaPFnTuplesOfx6
import Derived.Test.YtchkmmbedgolbaaPFnTuplesOfx7
import Derived.Test.YtchkmmbedgolbaaPFnTuplesOfx9
import Derived.Test.YtchkmmbedgolbaaPFnTuplesOfx10
import Derived.Test.YtchkmmbedgolbaaPFnTuplesOfx11
import Derived.Test.YtchkmmbedgolbaaPFnTuplesOfx12
import Derived.Test.YtchkmmbedgolbaaPFnTuplesOfx13
import Derived.Test.YtchkmmbedgolbaaPFnTuplesOfx14
import Derived.Test.YtchkmmbedgolbaaPFnTuplesOfx15
import Derived.Test.YtchkmmbedgolbaaPFnTuplesOfx16
import Derived.Test.YtchkmmbedgolbaaPFnTuplesOfx17
namespace Go.Proofs.Ytchkmmbedgolbaa.Pure
open Go.RowKit Go.Proofs.Ytchkmmbedgolbaa.PFnTuplesOf Go.Proofs.YtchkmmbedgolbaaW Go.Proofs.YtchkmmbedgolbaaW.PrintWords Go.Proofs.YtchkmmbedgolbaaW.PrintLast Go.Proofs.YtchkmmbedgolbaaW.PrintMore
set_option linter.unusedVariables false
set_option linter.unusedSectionVars false
set_option linter.unusedSimpArgs false
theorem z_6 {p : Prop} (h : p := by simp only [List.length_append, be, List.length_cons, List.length_nil]; omega) : p := h
theorem z_5 {p : Prop} (h : p := by rw [List.length_append, List.length_singleton]; exact hd2) : p := h
theorem z_4 {p : Prop} (h : p := by rw [List.length_append]; omega) : p := h
theorem z_3 {p : Prop} (h : p := by simp) : p := h
theorem z_2 {p : Prop} (h : p := by simp only [List.length_append, List.length_cons, List.length_nil]; omega) : p := h
theorem z_1 {p : Prop} (h : p := by rw [List.length_append, List.length_singleton]; omega) : p := h
theorem z_0 {p : Prop} (h : p := by omega) : p := h
/-- It ends, and its answer is as said. -/
def EvP {α : Type} (g : Nat → Option α) (Q : α → Prop) : Prop := ∃ r, Ev g r ∧ Q r
theorem EvP.now {α : Type} {Q : α → Prop} (r : α) (h : Q r) : EvP (fun _ => some r) Q := ⟨r, Ev.now r, h⟩
theorem EvP.step {α : Type} {g f : Nat → Option α} {Q : α → Prop} (h : ∀ k, g (k + 1) = f k) (k : EvP f Q) : EvP g Q := by
  obtain ⟨r, hr, hq⟩ := k
  exact ⟨r, Ev.step h hr, hq⟩
theorem EvP.congr {α : Type} {g f : Nat → Option α} {Q : α → Prop} (h : ∀ k, g k = f k) (k : EvP f Q) : EvP g Q := by
  obtain ⟨r, hr, hq⟩ := k
  exact ⟨r, Ev.congr h hr, hq⟩
theorem EvP.pos {α : Type} {c : Prop} [Decidable c] {g f : Nat → Option α} {Q : α → Prop} (hc : c) (h : EvP g Q) : EvP (fun k => if c then g k else f k) Q := EvP.congr (fun _ => if_pos hc) h
theorem EvP.neg {α : Type} {c : Prop} [Decidable c] {g f : Nat → Option α} {Q : α → Prop} (hc : ¬ c) (h : EvP f Q) : EvP (fun k => if c then g k else f k) Q := EvP.congr (fun _ => if_neg hc) h
theorem EvP.bind {α β : Type} {g : Nat → Option α} {f : Nat → α → Option β} {a : α} {Q : β → Prop} (h : Ev g a) (k : EvP (fun n => f n a) Q) : EvP (fun n => (g n).bind (f n)) Q := by
  obtain ⟨r, hr, hq⟩ := k
  exact ⟨r, Ev.bind h hr, hq⟩
theorem EvP.bindP {α β : Type} {g : Nat → Option α} {f : Nat → α → Option β} {P : α → Prop} {Q : β → Prop} (h : EvP g P) (k : ∀ a, P a → EvP (fun n => f n a) Q) : EvP (fun n => (g n).bind (f n)) Q := by
  obtain ⟨a, ha, hp⟩ := h
  exact EvP.bind ha (k a hp)
theorem EvP.mono {α : Type} {g : Nat → Option α} {P Q : α → Prop} (h : EvP g P) (k : ∀ a, P a → Q a) : EvP g Q := by
  obtain ⟨a, ha, hp⟩ := h
  exact ⟨a, ha, k a hp⟩
theorem Ev.const {α : Type} {a : Option α} {r : α} (h : a = some r) : Ev (fun _ => a) r := ⟨0, fun _ _ => h⟩

theorem w64 (n : Int) (h : -9223372036854775808 ≤ n ∧ n ≤ 9223372036854775807) : wrap64 n = n := by unfold wrap64; omega
theorem wsucc (i : Nat) (h : i < 10000000) : wrap64 ((i : Int) + 1) = ((i + 1 : Nat) : Int) := by rw [w64 _ z_0]; omega
theorem i16w (n : Int) (h : -32768 ≤ n ∧ n ≤ 32767) : IntKind.i16.wrap n = n := by simp only [IntKind.wrap, IntKind.bits, IntKind.signed]; simp; omega
theorem u16w (n : Int) (h : 0 ≤ n ∧ n ≤ 65535) : IntKind.u16.wrap n = n := by simp only [IntKind.wrap, IntKind.bits, IntKind.signed]; simp; omega
theorem i8m (x : Int) (h : -128 ≤ x ∧ x < 128) : IntKind.i8.wrap (x % 256) = x := by simp only [IntKind.wrap, IntKind.bits, IntKind.signed]; simp; omega
theorem i16m (x : Int) (h : -32768 ≤ x ∧ x ≤ 32767) : IntKind.i16.wrap (x % 65536) = x := by simp only [IntKind.wrap, IntKind.bits, IntKind.signed]; simp; omega
theorem drop_head {α : Type} {l : List α} {i : Nat} {x : α} {t : List α} (h : l.drop i = x :: t) : l[i]? = some x ∧ i < l.length ∧ l.drop (i + 1) = t := by
  have h0 : (l.drop i)[0]? = some x := by rw [h]; rfl
  rw [List.getElem?_drop, Nat.add_zero] at h0
  refine ⟨h0, (List.getElem?_eq_some_iff.1 h0).1, ?_⟩
  rw [← List.tail_drop, h]
  rfl
theorem getD_drop {α : Type} {l : List α} {i : Nat} {x : α} {t : List α} (z : α) (h : l.drop i = x :: t) : l.getD i z = x := by
  rw [List.getD_eq_getElem?_getD, (drop_head h).1]
  rfl
theorem drop_app {α : Type} {l a b : List α} {p : Nat} (h : l.drop p = a ++ b) : l.drop (p + a.length) = b := by
  rw [← List.drop_drop, h, List.drop_left]
theorem rdI {l : List Int} {i : Nat} {x : Int} {t : List Int} (h : l.drop i = x :: t) : rd l (i : Int) = x := getD_drop 0 h
def be (x : Int) : List Int := [(x / 256) % 256, x % 256]
theorem be_len (l : List Int) : (l.flatMap be).length = 2 * l.length := by
  induction l with
  | nil => rfl
  | cons x t ih => rw [List.flatMap_cons, List.length_append, ih, List.length_cons]; simp [be]; omega
theorem u16_be (x : Int) (t : List Int) : bU.f (be x ++ t) = some (x % 65536) := by
  have e0 : rd (be x ++ t) 0 = (x / 256) % 256 := rfl
  have e1 : rd (be x ++ t) 1 = x % 256 := rfl
  unfold bU.f
  rw [e0, e1, if_pos ⟨by rw [List.length_append]; simp [be], by omega, by omega⟩]
  congr 1
  omega
theorem short_l0 (l : List Int) (hl : l.length < 1000) : ∀ (t x0 : List Int) (i : Nat) (_ : l.drop i = t) (_ : i ≤ l.length) (_ : x0.length + 2 * t.length < 100000), Ev (fun k => tSh.l0 k x0 l (l.length : Int) (i : Int)) (x0 ++ t.flatMap be)
  | [], x0, i, hd, hi, hb => by
    have : l.length ≤ i := by simpa using hd
    refine Ev.step (f := fun _ => some x0) (fun k => ?_) (by simpa using Ev.now x0)
    rw [tSh.l0, if_neg z_0]
  | x :: t, x0, i, hd, hi, hb => by
    obtain ⟨_, hlt, hd2⟩ := drop_head hd
    have hr := rdI hd
    have hb' : x0.length + 2 * (t.length + 1) < 100000 := hb
    have ih := short_l0 l hl t (x0 ++ be x) (i + 1) hd2 z_0 z_6
    rw [List.append_assoc] at ih
    refine Ev.step (fun k => ?_) ih
    rw [tSh.l0, if_pos z_0, if_pos z_0, if_pos z_0, Option.bind_some, hr, if_pos (by simp only [List.length_cons, List.length_nil]; omega), wsucc i z_0]
    rfl
theorem short_is (x0 l : List Int) (hl : l.length < 1000) (hb : x0.length + 2 * l.length < 100000) : Ev (fun k => tSh.f k x0 l) (x0 ++ l.flatMap be) := short_l0 l hl l x0 0 rfl z_0 hb
def By (l : List Int) : Prop := ∀ x ∈ l, 0 ≤ x ∧ x ≤ 255
theorem By.at_ {l : List Int} (h : By l) (i : Int) : 0 ≤ rd l i ∧ rd l i ≤ 255 := by
  unfold rd
  rw [List.getD_eq_getElem?_getD]
  cases e : l[i.toNat]? with
  | none => simp
  | some x => exact h x (List.mem_of_getElem? e)
/-- A choice, by the ways' row: some number below n, and the place goes on. -/
theorem way_is (W : List Int) (hW : By W) (a : Int) (big : Bool) (n : Int) (hn : 0 < n) (h0 : 0 ≤ a) (h1 : a ≤ 100000) : ∃ c a' : Int, 0 ≤ c ∧ c < n ∧ 0 ≤ a' ∧ a' ≤ a + 1 ∧ wWy.f W a big n = some (c, a', big) := by
  unfold wWy.f
  by_cases hl : (W.length : Int) = 0
  · exact ⟨0, a, by omega, hn, h0, by omega, by rw [if_pos hl]⟩
  · have hp : (0 : Int) < (W.length : Int) := by omega
    have t0 : 0 ≤ Int.tmod a (W.length : Int) := Int.tmod_nonneg _ h0
    have t1 : Int.tmod a (W.length : Int) < (W.length : Int) := Int.tmod_lt_of_pos _ hp
    have d0 : 0 ≤ Int.tdiv a (W.length : Int) := Int.tdiv_nonneg h0 z_0
    have d1 : Int.tdiv a (W.length : Int) ≤ a := by rw [Int.tdiv_eq_ediv_of_nonneg h0]; exact Int.ediv_le_self _ h0
    have hb := hW.at_ (Int.tmod a (W.length : Int))
    rw [if_neg hl, if_pos t0, if_pos t1, if_neg z_0, w64 (rd W _) z_0, w64 (Int.tdiv a _) z_0, w64 (_ + _) z_0, w64 (a + 1) z_0]
    exact ⟨_, _, Int.tmod_nonneg _ z_0, Int.tmod_lt_of_pos _ hn, by omega, by omega, rfl⟩
def dif : Int → List Int → List Int
  | _, [] => []
  | p, x :: t => (x - p) :: dif x t
def lst : Int → List Int → Int
  | p, [] => p
  | _, x :: t => lst x t
theorem dif_len : ∀ (l : List Int) (p : Int), (dif p l).length = l.length
  | [], _ => rfl
  | x :: t, p => by rw [dif, List.length_cons, List.length_cons, dif_len t x]
/-- Points that rise, from p on, below 64. -/
def Rise : Int → List Int → Prop
  | _, [] => True
  | p, x :: t => p ≤ x ∧ x < 64 ∧ Rise x t
theorem Rise.app : ∀ {a b : List Int} {p : Int}, Rise p (a ++ b) → Rise p a ∧ Rise (lst p a) b
  | [], _, _, h => ⟨trivial, h⟩
  | _ :: _, _, _, h => ⟨⟨h.1, h.2.1, (Rise.app h.2.2).1⟩, (Rise.app h.2.2).2⟩
/-- The runs that are written for points, from p on. -/
inductive PR : Int → List Int → List Int → Prop
  | nil {p} : PR p [] []
  | run {p c t bs} (w : Bool) : 1 ≤ c.length → c.length ≤ 7 → PR (lst p c) t bs → PR p (c ++ t) ((if w then Go.bits .or .u8 ((c.length : Int) - 1) 128 else (c.length : Int) - 1) :: (if w then (dif p c).flatMap be else dif p c) ++ bs)
theorem seg_len (w : Bool) (p : Int) (c : List Int) : (if w then (dif p c).flatMap be else dif p c).length ≤ 2 * c.length := by
  cases w
  · have := dif_len c p
    simp only [Bool.false_eq_true, if_false]
    omega
  · simp only [if_true]
    rw [be_len, dif_len]
    omega
theorem PR.len {p : Int} {t bs : List Int} (h : PR p t bs) : bs.length ≤ 3 * t.length := by
  induction h with
  | nil => simp
  | @run p c t bs w h1 h2 _ ih =>
    have := seg_len w p c
    simp only [List.length_append, List.length_cons]
    omega

abbrev PQ := List Int × Int × Bool
theorem pp_l2 (W x1 : List Int) (n7 n8 : Int) (w big : Bool) (a : Int) (seg : List Int) (hs : seg.length < 1000) (Q : PQ → Prop) : ∀ (t : List Int) (i : Nat) (x4 : List Int) (p : Int) (_ : seg.drop i = t) (_ : i ≤ seg.length) (_ : 0 ≤ p ∧ p < 64) (_ : Rise p t) (_ : x4.length + 2 * t.length < 100000)
    (_ : EvP (fun k => wPP.l0 k x1 (x4 ++ (if w then (dif p t).flatMap be else dif p t)) (lst p t) (wrap64 (n7 + n8)) W a big) Q),
    EvP (fun k => wPP.l2 k x1 x4 p n7 n8 w seg (seg.length : Int) (i : Int) W a big) Q
  | [], i, x4, p, hd, hi, hp, hr, hb, h => by
    have : seg.length ≤ i := by simpa using hd
    refine EvP.step (fun k => ?_) h
    rw [wPP.l2, if_neg z_0]
    cases w <;> simp [dif, lst]
  | x :: t, i, x4, p, hd, hi, hp, hr, hb, h => by
    obtain ⟨_, hlt, hd2⟩ := drop_head hd
    have hrd := rdI hd
    obtain ⟨r1, r2, r3⟩ := hr
    simp only [List.length_cons] at hb
    cases w with
    | true =>
      have nx := pp_l2 W x1 n7 n8 true big a seg hs Q t (i + 1) (x4 ++ be (x - p)) x hd2 z_0 z_0 r3 z_6 (by
        rw [List.append_assoc]
        exact h)
      refine EvP.step (fun k => ?_) nx
      rw [wPP.l2, if_pos z_0, if_pos z_0, if_pos z_0, if_pos rfl, if_pos z_0, Option.bind_some, if_pos z_2, hrd, w64 (x - p) z_0, wsucc i z_0, List.append_assoc]
      rfl
    | false =>
      have nx := pp_l2 W x1 n7 n8 false big a seg hs Q t (i + 1) (x4 ++ [x - p]) x hd2 z_0 z_0 r3 z_2 (by
        rw [List.append_assoc]
        exact h)
      refine EvP.step (fun k => ?_) nx
      rw [wPP.l2, if_pos z_0, if_pos z_0, if_pos z_0, if_neg z_3, if_pos z_0, hrd, w64 (x - p) z_0, wsucc i z_0, show (x - p) % 256 = x - p by omega]
/-- The first look over a run: nothing is as far as 256 away. -/
theorem pp_l1 (W x1 x4 : List Int) (n6 n7 n8 : Int) (w big : Bool) (a : Int) (seg : List Int) (hs : seg.length < 1000) (hx4 : x4.length < 100000) (Q : PQ → Prop)
    (h : EvP (fun k => wPP.j4 k x1 (x4 ++ [if w then Go.bits .or .u8 ((wrap64 (n8 - 1)) % 256) 128 else (wrap64 (n8 - 1)) % 256]) n6 n7 n8 w W a big) Q) : ∀ (t : List Int) (i : Nat) (p : Int) (_ : seg.drop i = t) (_ : i ≤ seg.length) (_ : 0 ≤ p ∧ p < 64) (_ : Rise p t),
    EvP (fun k => wPP.l1 k x1 x4 n6 n7 n8 w p seg (seg.length : Int) (i : Int) W a big) Q
  | [], i, p, hd, hi, hp, hr => by
    have : seg.length ≤ i := by simpa using hd
    refine EvP.step (fun k => ?_) h
    cases w
    · rw [wPP.l1, if_neg z_0, if_neg z_3, if_pos z_0]
      rfl
    · rw [wPP.l1, if_neg z_0, if_pos rfl, if_pos z_0]
      rfl
  | x :: t, i, p, hd, hi, hp, hr => by
    obtain ⟨_, hlt, hd2⟩ := drop_head hd
    have hrd := rdI hd
    obtain ⟨r1, r2, r3⟩ := hr
    have nx := pp_l1 W x1 x4 n6 n7 n8 w big a seg hs hx4 Q h t (i + 1) x hd2 z_0 z_0 r3
    refine EvP.step (fun k => ?_) nx
    rw [wPP.l1, if_pos z_0, if_pos z_0, if_pos z_0, hrd, w64 (x - p) z_0, wsucc i z_0, decide_eq_false z_0]
    cases w <;> rfl
def PQw (x4 : List Int) (p : Int) (t : List Int) (a : Int) (big : Bool) (r : PQ) : Prop := ∃ bs, r.1 = x4 ++ bs ∧ PR p t bs ∧ 0 ≤ r.2.1 ∧ r.2.1 ≤ a + 2 * t.length ∧ r.2.2 = big
theorem lst_b : ∀ (c : List Int) (p : Int), 0 ≤ p ∧ p < 64 → Rise p c → 0 ≤ lst p c ∧ lst p c < 64
  | [], _, hp, _ => hp
  | x :: t, p, hp, hr => lst_b t x ⟨by have := hr.1; omega, hr.2.1⟩ hr.2.2
/-- One run is written. -/
theorem pp_run (W l : List Int) (big : Bool) (x4 u : List Int) (i N : Nat) (p a a2 : Int) (n1 : 1 ≤ N) (n2 : N ≤ 7) (n3 : N ≤ u.length) (hul : u.length = l.length - i) (hl : l.length < 100) (hi : i < l.length) (hd : l.drop i = u) (hp : 0 ≤ p ∧ p < 64) (hr : Rise p u) (hb : x4.length + 3 * u.length < 10000) (ha2 : a2 ≤ a + 2) (w : Bool)
    (ih : ∀ y : List Int, y.length + 3 * (u.drop N).length < 10000 → EvP (fun k => wPP.l0 k l y (lst p (u.take N)) ((i + N : Nat) : Int) W a2 big) (PQw y (lst p (u.take N)) (u.drop N) a2 big)) :
    EvP (fun k => wPP.l1 k l x4 p (i : Int) (N : Int) w p (u.take N) ((u.take N).length : Int) 0 W a2 big) (PQw x4 p u a big) := by
  have hcl : (u.take N).length = N := by rw [List.length_take]; omega
  have hdl : (u.drop N).length = u.length - N := List.length_drop
  have hsplit : u.take N ++ u.drop N = u := List.take_append_drop N u
  have hr' : Rise p (u.take N ++ u.drop N) := by rw [hsplit]; exact hr
  obtain ⟨ra, rb⟩ := hr'.app
  have hlen := seg_len w p (u.take N)
  have fin : EvP (fun k => wPP.l0 k l ((x4 ++ [if w then Go.bits .or .u8 ((N : Int) - 1) 128 else (N : Int) - 1]) ++ (if w then (dif p (u.take N)).flatMap be else dif p (u.take N))) (lst p (u.take N)) ((i + N : Nat) : Int) W a2 big) (PQw x4 p u a big) := by
    refine (ih _ z_2).mono ?_
    rintro r ⟨bs, e1, e2, e3, e4, e5⟩
    refine ⟨(if w then Go.bits .or .u8 ((N : Int) - 1) 128 else (N : Int) - 1) :: (if w then (dif p (u.take N)).flatMap be else dif p (u.take N)) ++ bs, ?_, ?_, e3, by omega, e5⟩
    · rw [e1]; simp
    · have := PR.run (p := p) (c := u.take N) (t := u.drop N) (bs := bs) w z_0 z_0 e2
      rw [hsplit, hcl] at this
      exact this
  have b1 : (x4 ++ [if w then Go.bits .or .u8 ((N : Int) - 1) 128 else (N : Int) - 1]).length + 2 * (u.take N).length < 100000 := by simp only [List.length_append, List.length_cons, List.length_nil]; omega
  have b2 : (u.take N).length < 1000 := by omega
  have b3 : x4.length < 100000 := by omega
  have c1 : (0 : Int) ≤ (i : Int) := by omega
  have c2 : (i : Int) ≤ ((i + N : Nat) : Int) := by omega
  have c3 : ((i + N : Nat) : Int) ≤ (l.length : Int) := by omega
  have c4 : wrap64 ((N : Int) - 1) = (N : Int) - 1 := w64 _ z_0
  have c5 : ((N : Int) - 1) % 256 = (N : Int) - 1 := by omega
  have hseg : ((l.take (((i + N : Nat) : Int)).toNat).drop (i : Int).toNat) = u.take N := by
    rw [Int.toNat_natCast, Int.toNat_natCast, ← hd, List.take_drop]
  have hw : wrap64 ((i : Int) + (N : Int)) = ((i + N : Nat) : Int) := by rw [w64 _ z_0]; omega
  have g2 := pp_l2 W l (i : Int) (N : Int) w big a2 (u.take N) b2 (PQw x4 p u a big) (u.take N) 0 (x4 ++ [if w then Go.bits .or .u8 ((N : Int) - 1) 128 else (N : Int) - 1]) p List.drop_zero (Nat.zero_le _) hp ra b1 (by rw [hw]; exact fin)
  have g3 : EvP (fun k => wPP.j4 k l (x4 ++ [if w then Go.bits .or .u8 ((wrap64 ((N : Int) - 1)) % 256) 128 else (wrap64 ((N : Int) - 1)) % 256]) p (i : Int) (N : Int) w W a2 big) (PQw x4 p u a big) := by
    rw [c4, c5]
    refine EvP.step (fun k => ?_) g2
    rw [wPP.j4, hw, if_pos c1, if_pos c2, if_pos c3, hseg]
    rfl
  exact pp_l1 W l x4 p (i : Int) (N : Int) w big a2 (u.take N) b2 b3 (PQw x4 p u a big) g3 (u.take N) 0 p List.drop_zero (Nat.zero_le _) hp ra
theorem mn_is (A c : Int) (hA : 1 ≤ A ∧ A < 100) (hc : 0 ≤ c ∧ c < 7) : ∃ N : Nat, mn A (1 + c) = (N : Int) ∧ 1 ≤ N ∧ N ≤ 7 ∧ (N : Int) ≤ A := by
  unfold mn
  split
  · exact ⟨(1 + c).toNat, by omega, by omega, by omega, by omega⟩
  · exact ⟨A.toNat, by omega, by omega, by omega, by omega⟩
/-- What is still to be written of the points is written in runs. -/
theorem pp_l0 (W : List Int) (hW : By W) (big : Bool) (l : List Int) (hl : l.length < 100) : ∀ (m : Nat) (t : List Int) (i : Nat) (x4 : List Int) (p a : Int) (_ : t.length ≤ m) (_ : l.drop i = t) (_ : i ≤ l.length) (_ : 0 ≤ p ∧ p < 64) (_ : Rise p t) (_ : x4.length + 3 * t.length < 10000) (_ : 0 ≤ a) (_ : a + 2 * t.length ≤ 50000),
    EvP (fun k => wPP.l0 k l x4 p (i : Int) W a big) (PQw x4 p t a big)
  | m, [], i, x4, p, a, hm, hd, hi, hp, hr, hb, ha, ha2 => by
    have : l.length ≤ i := by simpa using hd
    refine EvP.step (f := fun _ => some (x4, a, big)) (fun k => ?_) (EvP.now _ ⟨[], (List.append_nil _).symm, .nil, ha, by simp, rfl⟩)
    rw [wPP.l0, if_neg z_0]
  | 0, x :: t, i, x4, p, a, hm, hd, hi, hp, hr, hb, ha, ha2 => by simp at hm
  | m + 1, x :: t, i, x4, p, a, hm, hd, hi, hp, hr, hb, ha, ha2 => by
    obtain ⟨_, hlt, _⟩ := drop_head hd
    have hu : 1 ≤ (x :: t).length := by simp
    generalize x :: t = u at *
    have hul : u.length = l.length - i := by rw [← hd, List.length_drop]
    obtain ⟨c1, a1, q1, q2, q3, q4, q5⟩ := way_is W hW a big 7 z_0 ha z_0
    obtain ⟨c2, a2, p1, p2, p3, p4, p5⟩ := way_is W hW a1 big 3 z_0 q3 z_0
    obtain ⟨N, hN, n1, n2, n3⟩ := mn_is ((l.length : Int) - (i : Int)) c1 z_0 ⟨q1, q2⟩
    have n4 : N ≤ u.length := by omega
    have hr' : Rise p (u.take N ++ u.drop N) := by rw [List.take_append_drop]; exact hr
    have hdl : (u.drop N).length = u.length - N := List.length_drop
    have hlb := lst_b _ _ hp hr'.app.1
    have body := pp_run W l big x4 u i N p a a2 n1 n2 n4 hul hl hlt hd hp hr hb z_0 (c2 == 2)
      (fun y hy => pp_l0 W hW big l hl m (u.drop N) (i + N) y (lst p (u.take N)) a2 z_0 (by rw [← List.drop_drop, hd]) z_0 hlb hr'.app.2 hy p3 z_0)
    have c1' : (0 : Int) ≤ (i : Int) := by omega
    have c2' : (i : Int) ≤ ((i + N : Nat) : Int) := by omega
    have c3' : ((i + N : Nat) : Int) ≤ (l.length : Int) := by omega
    have c4' : (i : Int) < (l.length : Int) := by omega
    have hseg : ((l.take (((i + N : Nat) : Int)).toNat).drop (i : Int).toNat) = u.take N := by
      rw [Int.toNat_natCast, Int.toNat_natCast, ← hd, List.take_drop]
    have w1 : wrap64 ((l.length : Int) - (i : Int)) = (l.length : Int) - (i : Int) := w64 _ z_0
    have w2 : wrap64 (1 + c1) = 1 + c1 := w64 _ z_0
    have hw : wrap64 ((i : Int) + (N : Int)) = ((i + N : Nat) : Int) := by rw [w64 _ z_0]; omega
    refine EvP.step (fun k => ?_) body
    rw [wPP.l0, if_pos c4', q5, Option.bind_some, p5, Option.bind_some]
    dsimp only
    rw [w1, w2, hN, hw, if_pos c1', if_pos c2', if_pos c3', hseg]

/-- A row of points, as it is written. -/
def PK (l b : List Int) : Prop := ∃ hd bs, b = hd ++ bs ∧ PR 0 l bs ∧ (hd = [(l.length : Int)] ∨ (0 < l.length ∧ hd = [128, (l.length : Int)]))
theorem pk_is (W : List Int) (hW : By W) (big : Bool) (l : List Int) (hl : l.length < 100) (hr : Rise 0 l) (a : Int) (ha : 0 ≤ a) (ha2 : a ≤ 40000) :
    EvP (fun k => wPP.f k W a big l) (fun r => PK l r.1 ∧ 0 ≤ r.2.1 ∧ r.2.1 ≤ a + 1 + 2 * l.length ∧ r.2.2 = big) := by
  have run : ∀ (hd : List Int) (a1 : Int), hd.length ≤ 2 → 0 ≤ a1 → a1 ≤ a + 1 → (hd = [(l.length : Int)] ∨ (0 < l.length ∧ hd = [128, (l.length : Int)])) → EvP (fun k => wPP.j1 k l hd W a1 big) (fun r => PK l r.1 ∧ 0 ≤ r.2.1 ∧ r.2.1 ≤ a + 1 + 2 * l.length ∧ r.2.2 = big) := by
    intro hd a1 h1 h2 h3 h4
    refine EvP.step (f := fun k => wPP.l0 k l hd 0 ((0 : Nat) : Int) W a1 big) (fun k => by rw [wPP.j1]; rfl) ((pp_l0 W hW big l hl l.length l 0 hd 0 a1 (Nat.le_refl _) List.drop_zero (Nat.zero_le _) z_0 hr z_0 h2 z_0).mono ?_)
    rintro r ⟨bs, e1, e2, e3, e4, e5⟩
    exact ⟨⟨hd, bs, e1, e2, h4⟩, e3, by omega, e5⟩
  have short : ∀ a1 : Int, 0 ≤ a1 → a1 ≤ a + 1 → EvP (fun k => wPP.j0 k l [] (l.length : Int) true W a1 big) (fun r => PK l r.1 ∧ 0 ≤ r.2.1 ∧ r.2.1 ≤ a + 1 + 2 * l.length ∧ r.2.2 = big) := by
    intro a1 h2 h3
    refine EvP.step (fun k => ?_) (run [(l.length : Int)] a1 z_3 h2 h3 (Or.inl rfl))
    rw [wPP.j0, if_pos rfl, if_pos z_3, show (l.length : Int) % 256 = (l.length : Int) by omega, List.nil_append]
  have h128 : (l.length : Int) < 128 := by omega
  by_cases h0 : (l.length : Int) = 0
  · refine EvP.congr (fun k => ?_) (short a ha z_0)
    unfold wPP.f
    rw [if_pos h128, if_pos h0]
  · obtain ⟨c, a1, _, _, q3, q4, q5⟩ := way_is W hW a big 4 z_0 ha z_0
    refine EvP.congr (f := fun k => wPP.j0 k l [] (l.length : Int) (decide (c > 0)) W a1 big) (fun k => ?_) ?_
    · unfold wPP.f
      rw [if_pos h128, if_neg h0, q5, Option.bind_some]
    · by_cases hc : c > 0
      · rw [decide_eq_true hc]
        exact short a1 q3 q4
      · rw [decide_eq_false hc]
        refine EvP.step (fun k => ?_) (run [128, (l.length : Int)] a1 z_3 q3 q4 (Or.inr ⟨by omega, rfl⟩))
        rw [wPP.j0, if_neg z_3, Option.bind_some, if_pos z_3, show (l.length : Int) / 256 % 256 = 0 by omega, show (l.length : Int) % 256 = (l.length : Int) by omega]
        rfl
theorem fill_rd (A : List Int) (n : Nat) : (A ++ List.replicate (n + 1) (0 : Int)).length = A.length + (n + 1) := by simp
theorem fill_set (A : List Int) (n : Nat) (y : Int) (i : Int) (hi : i = (A.length : Int)) : (A ++ List.replicate (n + 1) (0 : Int)).set i.toNat y = (A ++ [y]) ++ List.replicate n 0 := by
  rw [hi, Int.toNat_natCast, List.set_append_right _ _ (Nat.le_refl _), Nat.sub_self, List.replicate_succ, List.set_cons_zero, List.append_assoc]
  rfl
theorem pu_l0 (B rest : List Int) (n : Nat) (hn : n < 1000) (hB : B.length < 100000) : ∀ (t A : List Int) (_ : B.drop (2 * A.length) = t.flatMap be ++ rest) (_ : 2 * A.length ≤ B.length) (_ : A.length + t.length = n) (_ : ∀ x ∈ t, 0 ≤ x ∧ x ≤ 65535),
    Ev (fun k => tPU.l0 k B (A ++ List.replicate t.length 0) (n : Int) (A.length : Int)) (A ++ t, none)
  | [], A, hd, h1, h2, hb => by
    refine Ev.step (f := fun _ => some (A ++ [], none)) (fun k => ?_) (Ev.now _)
    simp only [List.length_nil] at h2
    rw [tPU.l0, if_neg z_0]
    rfl
  | x :: t, A, hd, h1, h2, hb => by
    rw [List.flatMap_cons, List.append_assoc] at hd
    have hx := hb x List.mem_cons_self
    have hd2 := drop_app hd
    simp only [List.length_cons] at h2
    have hlen : 2 * A.length + 2 ≤ B.length := by have := congrArg List.length hd; simp only [List.length_drop, List.length_append, be, List.length_cons, List.length_nil] at this; omega
    have nx := pu_l0 B rest n hn hB t (A ++ [x]) (by rw [List.length_append, List.length_singleton, show 2 * (A.length + 1) = 2 * A.length + 2 by omega]; exact hd2) z_1 z_1 (fun y hy => hb y (List.mem_cons_of_mem _ hy))
    rw [List.append_assoc A [x] t, List.length_append, List.length_singleton] at nx
    refine Ev.step (fun k => ?_) nx
    have w : wrap64 (2 * (A.length : Int)) = ((2 * A.length : Nat) : Int) := by rw [w64 _ z_0]; omega
    rw [tPU.l0, w, if_pos z_0, if_pos z_0, if_pos z_0, Int.toNat_natCast, hd, u16_be, Option.bind_some, if_pos z_0, List.length_cons, if_pos (by rw [fill_rd]; omega), fill_set A _ _ _ rfl, wsucc _ z_0, show x % 65536 = x by omega]
theorem pu_is (t rest : List Int) (ht : t.length < 1000) (hr : rest.length < 60000) (hb : ∀ x ∈ t, 0 ≤ x ∧ x ≤ 65535) : Ev (fun k => tPU.f k (t.flatMap be ++ rest) (t.length : Int)) (t, none) := by
  have hl : (t.flatMap be ++ rest).length = 2 * t.length + rest.length := by rw [List.length_append, be_len]
  have h := pu_l0 (t.flatMap be ++ rest) rest t.length ht z_0 t [] rfl (Nat.zero_le _) z_3 hb
  refine Ev.congr (fun k => ?_) h
  unfold tPU.f
  rw [w64 _ z_0, if_neg z_0, if_pos z_0, Int.toNat_natCast, if_pos z_0, Option.bind_some, List.length_replicate]
  rfl
theorem flag_run : ∀ n : Fin 64, Go.bits .and .u8 (n.val : Int) 128 = 0 ∧ ((Go.bits .and .u8 (n.val : Int) 127) + 1) % 256 = (n.val : Int) + 1 ∧ ¬ Go.bits .and .u8 (Go.bits .or .u8 (n.val : Int) 128) 128 = 0 ∧ ((Go.bits .and .u8 (Go.bits .or .u8 (n.val : Int) 128) 127) + 1) % 256 = (n.val : Int) + 1 := by decide
theorem dif_b : ∀ (t : List Int) (p : Int), 0 ≤ p → Rise p t → ∀ x ∈ dif p t, 0 ≤ x ∧ x ≤ 65535
  | [], _, _, _, x, hx => by simp [dif] at hx
  | y :: t, p, hp, hr, x, hx => by
    rcases List.mem_cons.1 hx with rfl | hx
    · have := hr.1; have := hr.2.1; omega
    · exact dif_b t y (by have := hr.1; omega) hr.2.2 x hx
abbrev PN := List Int × List Int × Option Int
theorem pn_l2 (x0 : List Int) (x5 : Int) (c : Nat) (hc : c < 100) (hx0 : 1 + c ≤ x0.length) (seg : List Int) (hs : seg.length < 1000) (Q : PN → Prop) : ∀ (t : List Int) (i : Nat) (p : Int) (acc : List Int) (_ : seg.drop i = dif p t) (_ : i ≤ seg.length) (_ : 0 ≤ p ∧ p < 64) (_ : Rise p t) (_ : acc.length + t.length < 1000)
    (_ : EvP (fun k => fPN.l0 k (x0.drop (1 + c)) x5 (lst p t) (acc ++ t)) Q),
    EvP (fun k => fPN.l2 k x0 x5 p acc (c : Int) seg (seg.length : Int) (i : Int)) Q
  | [], i, p, acc, hd, hi, hp, hr, hb, h => by
    have : seg.length ≤ i := by simpa [dif] using hd
    have w : wrap64 (1 + (c : Int)) = ((1 + c : Nat) : Int) := by rw [w64 _ z_0]; omega
    have c1 : (0 : Int) ≤ ((1 + c : Nat) : Int) := by omega
    have c2 : ((1 + c : Nat) : Int) ≤ (x0.length : Int) := by omega
    rw [List.append_nil] at h
    refine EvP.step (fun k => ?_) h
    rw [fPN.l2, if_neg z_0, w, if_pos c1, if_pos c2, Int.toNat_natCast]
    rfl
  | x :: t, i, p, acc, hd, hi, hp, hr, hb, h => by
    rw [dif] at hd
    obtain ⟨_, hlt, hd2⟩ := drop_head hd
    have hrd := rdI hd
    obtain ⟨r1, r2, r3⟩ := hr
    simp only [List.length_cons] at hb
    have nx := pn_l2 x0 x5 c hc hx0 seg hs Q t (i + 1) x (acc ++ [x]) hd2 z_0 z_0 r3 z_1 (by rw [List.append_assoc]; exact h)
    have w : IntKind.u16.wrap (IntKind.u16.wrap (x - p) + p) = x := by rw [u16w (x - p) z_0, show x - p + p = x by omega, u16w x z_0]
    refine EvP.step (fun k => ?_) nx
    rw [fPN.l2, if_pos z_0, if_pos z_0, if_pos z_0, if_pos z_0, hrd, w, wsucc i z_0]
theorem pn_l1 (x0 : List Int) (x5 : Int) (c : Nat) (hc : c < 100) (hx0 : 1 + 2 * c ≤ x0.length) (seg : List Int) (hs : seg.length < 1000) (Q : PN → Prop) : ∀ (t : List Int) (i : Nat) (p : Int) (acc : List Int) (_ : seg.drop i = dif p t) (_ : i ≤ seg.length) (_ : 0 ≤ p ∧ p < 64) (_ : Rise p t) (_ : acc.length + t.length < 1000)
    (_ : EvP (fun k => fPN.l0 k (x0.drop (1 + 2 * c)) x5 (lst p t) (acc ++ t)) Q),
    EvP (fun k => fPN.l1 k x0 x5 p acc (c : Int) seg (seg.length : Int) (i : Int)) Q
  | [], i, p, acc, hd, hi, hp, hr, hb, h => by
    have : seg.length ≤ i := by simpa [dif] using hd
    have w : wrap64 (1 + wrap64 (2 * (c : Int))) = ((1 + 2 * c : Nat) : Int) := by rw [w64 (2 * _) z_0, w64 _ z_0]; omega
    have c1 : (0 : Int) ≤ ((1 + 2 * c : Nat) : Int) := by omega
    have c2 : ((1 + 2 * c : Nat) : Int) ≤ (x0.length : Int) := by omega
    rw [List.append_nil] at h
    refine EvP.step (fun k => ?_) h
    rw [fPN.l1, if_neg z_0, w, if_pos c1, if_pos c2, Int.toNat_natCast]
    rfl
  | x :: t, i, p, acc, hd, hi, hp, hr, hb, h => by
    rw [dif] at hd
    obtain ⟨_, hlt, hd2⟩ := drop_head hd
    have hrd := rdI hd
    obtain ⟨r1, r2, r3⟩ := hr
    simp only [List.length_cons] at hb
    have nx := pn_l1 x0 x5 c hc hx0 seg hs Q t (i + 1) x (acc ++ [x]) hd2 z_0 z_0 r3 z_1 (by rw [List.append_assoc]; exact h)
    have w : IntKind.u16.wrap (x - p + p) = x := by rw [show x - p + p = x by omega, u16w x z_0]
    refine EvP.step (fun k => ?_) nx
    rw [fPN.l1, if_pos z_0, if_pos z_0, if_pos z_0, if_pos z_0, hrd, w, wsucc i z_0]

theorem EvP.stepE {α : Type} {g f : Nat → Option α} {Q : α → Prop} (K : Nat) (h : ∀ k, K ≤ k → g (k + 1) = f k) (k : EvP f Q) : EvP g Q := by
  obtain ⟨r, ⟨L, hL⟩, hq⟩ := k
  refine ⟨r, ⟨max K L + 1, fun j hj => ?_⟩, hq⟩
  obtain ⟨i, rfl⟩ : ∃ i, j = i + 1 := ⟨j - 1, by omega⟩
  rw [h i z_0, hL i z_0]
theorem PR.nil_ {p : Int} {bs : List Int} (h : PR p [] bs) : bs = [] := by
  generalize ht : ([] : List Int) = t at h
  cases h with
  | nil => rfl
  | @run p c t bs w h1 h2 _ =>
    have : c.length + t.length = 0 := by rw [← List.length_append, ← ht]; rfl
    omega
theorem pn_l0 (rest : List Int) (hrest : rest.length < 50000) (n : Nat) (hn : n < 100) {p : Int} {t bs : List Int} (h : PR p t bs) : ∀ (acc : List Int) (_ : acc.length + t.length = n) (_ : 0 ≤ p ∧ p < 64) (_ : Rise p t),
    EvP (fun k => fPN.l0 k (bs ++ rest) (n : Int) p acc) (fun r => r = (acc ++ t, rest, none)) := by
  induction h with
  | @nil p =>
    intro acc h1 h2 h3
    simp only [List.length_nil] at h1
    have w : wrap64 (n : Int) = (n : Int) := w64 _ z_0
    refine EvP.step (f := fun _ => some (acc, rest, none)) (fun k => ?_) (EvP.now _ (by rw [List.append_nil]))
    rw [fPN.l0, w, if_neg z_0]
    rfl
  | @run p c t bs w h1 h2 hr ih =>
    intro acc h3 h4 h5
    rw [List.length_append] at h3
    have hlb := lst_b _ _ h4 h5.app.1
    have nx := ih (acc ++ c) z_4 hlb h5.app.2
    rw [List.append_assoc] at nx
    have hnb : -9223372036854775808 ≤ (n : Int) ∧ (n : Int) ≤ 9223372036854775807 := by omega
    have hlt : (acc.length : Int) < (n : Int) := by omega
    have hbl := (hr.len)
    have hdl := dif_len c p
    have hdb := dif_b c p h4.1 h5.app.1
    have hc1 : ((c.length - 1 : Nat) : Int) = (c.length : Int) - 1 := by omega
    have hc2 : c.length - 1 < 64 := by omega
    have hc3 : c.length < 100 := by omega
    have hc4 : (dif p c).length < 1000 := by omega
    have hc5 : acc.length + c.length < 1000 := by omega
    have hc6 : (c.length : Int) - 1 + 1 = (c.length : Int) := by omega
    cases w with
    | false =>
      simp only [Bool.false_eq_true, if_false]
      generalize hX : ((c.length : Int) - 1) :: dif p c ++ bs ++ rest = X
      have hX0 : rd X 0 = (c.length : Int) - 1 := by rw [← hX]; rfl
      have hXl : X.length = 1 + c.length + bs.length + rest.length := by rw [← hX]; simp only [List.length_append, List.length_cons]; omega
      have hX1 : X.drop (1 + c.length) = bs ++ rest := by rw [← hX, ← hdl, Nat.add_comm, List.cons_append, List.cons_append, List.drop_succ_cons, List.append_assoc, List.drop_left]
      have hX2 : (X.take ((1 + (c.length : Int)) : Int).toNat).drop 1 = dif p c := by
        rw [show ((1 + (c.length : Int)) : Int).toNat = c.length + 1 by omega, ← hdl, ← hX, List.cons_append, List.cons_append, List.take_succ_cons, List.drop_succ_cons, List.drop_zero, List.append_assoc, List.take_left]
      have k0 : ¬ (X.length : Int) = 0 := by omega
      have k1 : 0 < (X.length : Int) := by omega
      have k2 : ¬ (X.length : Int) < 1 + (c.length : Int) := by omega
      have k3 : 1 ≤ 1 + (c.length : Int) := by omega
      have k4 : 1 + (c.length : Int) ≤ (X.length : Int) := by omega
      have k5 : 1 + c.length ≤ X.length := by omega
      rw [← hX1] at nx
      have g := pn_l2 X (n : Int) c.length hc3 k5 (dif p c) hc4 _ c 0 p acc List.drop_zero (Nat.zero_le _) h4 h5.app.1 hc5 nx
      obtain ⟨f1, f2, f3, f4⟩ := flag_run ⟨c.length - 1, hc2⟩
      simp only [hc1] at f1 f2 f3 f4
      rw [hc6] at f2 f4
      refine EvP.step (fun k => ?_) g
      rw [fPN.l0, w64 (n : Int) hnb, if_pos hlt, if_neg k0, if_pos k1, hX0, if_pos f1, f2, if_neg k2, if_pos k3, if_pos k4, hX2, Option.bind_some]
      rfl
    | true =>
      simp only [if_true]
      generalize hX : Go.bits .or .u8 ((c.length : Int) - 1) 128 :: (dif p c).flatMap be ++ bs ++ rest = X
      have hX0 : rd X 0 = Go.bits .or .u8 ((c.length : Int) - 1) 128 := by rw [← hX]; rfl
      have hbe := be_len (dif p c)
      have hXl : X.length = 1 + 2 * c.length + bs.length + rest.length := by rw [← hX]; simp only [List.length_append, List.length_cons]; omega
      have hX1 : X.drop (1 + 2 * c.length) = bs ++ rest := by rw [← hX, ← hdl, ← hbe, Nat.add_comm, List.cons_append, List.cons_append, List.drop_succ_cons, List.append_assoc, List.drop_left]
      have hX2 : X.drop 1 = (dif p c).flatMap be ++ (bs ++ rest) := by rw [← hX, List.cons_append, List.cons_append, List.drop_succ_cons, List.drop_zero, List.append_assoc]
      have k0 : ¬ (X.length : Int) = 0 := by omega
      have k1 : 0 < (X.length : Int) := by omega
      have k2 : 1 ≤ (X.length : Int) := by omega
      have k5 : 1 + 2 * c.length ≤ X.length := by omega
      have k6 : (bs ++ rest).length < 60000 := by rw [List.length_append]; omega
      rw [← hX1] at nx
      obtain ⟨K, hK⟩ := pu_is (dif p c) (bs ++ rest) hc4 k6 hdb
      rw [hdl] at hK
      have g := pn_l1 X (n : Int) c.length hc3 k5 (dif p c) hc4 _ c 0 p acc List.drop_zero (Nat.zero_le _) h4 h5.app.1 hc5 nx
      obtain ⟨f1, f2, f3, f4⟩ := flag_run ⟨c.length - 1, hc2⟩
      simp only [hc1] at f1 f2 f3 f4
      rw [hc6] at f2 f4
      refine EvP.stepE K (fun k hk => ?_) g
      have hKk := hK k hk
      dsimp only at hKk
      rw [fPN.l0, w64 (n : Int) hnb, if_pos hlt, if_neg k0, if_pos k1, hX0, if_neg f3, f4, if_pos k2, hX2, hKk, Option.bind_some]
      simp only [Option.isNone_none, if_true]
      rfl
/-- Points that were written are read again. -/
theorem pn_is (l b rest : List Int) (h : PK l b) (hl : l.length < 60) (hr : Rise 0 l) (hrest : rest.length < 50000) : Ev (fun k => pn77.f k (b ++ rest)) (l, rest) := by
  obtain ⟨hd, bs, rfl, hp, ho⟩ := h
  by_cases h0 : l = []
  · subst h0
    rw [hp.nil_]
    rcases ho with rfl | ⟨ho, _⟩
    · refine Ev.congr (f := fun _ => some ([], rest)) (fun k => ?_) (Ev.now _)
      unfold pn77.f
      rw [if_pos ⟨by simp, rfl⟩]
      rfl
    · simp at ho
  · have hl0 : 0 < l.length := List.length_pos_iff.2 h0
    have cnt : ∀ n : Fin 64, Go.bits .and .u8 (n.val : Int) 128 = 0 ∧ Go.bits .or .u16 (IntKind.u16.wrap ((IntKind.u16.wrap (Go.bits .andNot .u8 128 128)) * 256)) (IntKind.u16.wrap (n.val : Int)) = (n.val : Int) := by decide
    have m1 : ¬ (l.length : Int) = 0 := by omega
    have m2 : 0 ≤ (l.length : Int) := by omega
    have m3 : (l.length : Int).toNat ≤ 140737488355328 := by omega
    obtain ⟨k1, k2⟩ := cnt ⟨l.length, by omega⟩
    simp only at k1 k2
    have hbl := hp.len
    have gp : gPC.f (hd ++ bs ++ rest) = some ((l.length : Int), bs ++ rest, none) ∧ ¬ (0 < (hd ++ bs ++ rest).length ∧ rd (hd ++ bs ++ rest) 0 = 0) := by
      rcases ho with rfl | ⟨_, rfl⟩
      · have e0 : rd ([(l.length : Int)] ++ bs ++ rest) 0 = (l.length : Int) := rfl
        have el : ([(l.length : Int)] ++ bs ++ rest).length = 1 + bs.length + rest.length := by simp; omega
        refine ⟨?_, fun h => by rw [e0] at h; omega⟩
        unfold gPC.f
        rw [el, e0, if_neg z_0, if_pos z_0, if_neg z_0, if_pos k1, if_pos z_0, u16w _ z_0]
        rfl
      · have e0 : rd ([128, (l.length : Int)] ++ bs ++ rest) 0 = 128 := rfl
        have e1 : rd ([128, (l.length : Int)] ++ bs ++ rest) 1 = (l.length : Int) := rfl
        have el : ([128, (l.length : Int)] ++ bs ++ rest).length = 2 + bs.length + rest.length := by simp; omega
        refine ⟨?_, fun h => by rw [e0] at h; omega⟩
        unfold gPC.f
        rw [el, e0, e1, if_neg z_0, if_pos z_0, if_neg z_0, if_neg (by decide), if_neg z_0, if_pos z_0, if_pos z_0, k2]
        rfl
    obtain ⟨r, hr1, rfl⟩ := pn_l0 rest hrest l.length z_0 hp [] z_3 z_0 hr
    have pp : Ev (fun k => fPN.f k (hd ++ bs ++ rest)) (l, rest, none) := by
      refine Ev.congr (fun k => ?_) hr1
      unfold fPN.f
      rw [gp.1, Option.bind_some]
      simp only [Option.isNone_none, if_true]
      rw [if_neg m1, if_pos m2, if_pos m3]
    refine Ev.congr (fun k => ?_) (Ev.bind (f := fun _ p => if p.2.2 = none ∧ p.1 ≠ [] then some (p.1, p.2.1) else none) pp ⟨0, fun k _ => if_pos ⟨rfl, h0⟩⟩)
    unfold pn77.f
    rw [if_neg gp.2]

inductive PD : List Int → List Int → Prop
  | nil : PD [] []
  | zero {c t bs} : 1 ≤ c.length → c.length ≤ 64 → (∀ x ∈ c, x = 0) → PD t bs → PD (c ++ t) (Go.bits .or .u8 ((c.length : Int) - 1) 128 :: bs)
  | bytes {c t bs} : 1 ≤ c.length → c.length ≤ 9 → (∀ x ∈ c, -128 ≤ x ∧ x < 128) → PD t bs → PD (c ++ t) (((c.length : Int) - 1) :: c.map (fun x => x % 256) ++ bs)
  | words {c t bs} : 1 ≤ c.length → c.length ≤ 5 → (∀ x ∈ c, -32768 ≤ x ∧ x ≤ 32767) → PD t bs → PD (c ++ t) (Go.bits .or .u8 ((c.length : Int) - 1) 64 :: c.flatMap be ++ bs)
theorem PD.app {a x b y : List Int} (h : PD a x) (h2 : PD b y) : PD (a ++ b) (x ++ y) := by
  induction h with
  | nil => exact h2
  | zero q1 q2 q3 _ ih => rw [List.append_assoc, List.cons_append]; exact .zero q1 q2 q3 ih
  | bytes q1 q2 q3 _ ih => rw [List.append_assoc, List.append_assoc]; exact .bytes q1 q2 q3 ih
  | words q1 q2 q3 _ ih => rw [List.append_assoc, List.append_assoc]; exact .words q1 q2 q3 ih
theorem PD.len {t bs : List Int} (h : PD t bs) : bs.length ≤ 3 * t.length := by
  induction h with
  | nil => simp
  | zero q1 q2 q3 _ ih => simp only [List.length_append, List.length_cons]; omega
  | bytes q1 q2 q3 _ ih => simp only [List.length_append, List.length_cons, List.length_map]; omega
  | words q1 q2 q3 _ ih => simp only [List.length_append, List.length_cons, be_len]; omega
def PDQ (x4 t : List Int) (a : Int) (big : Bool) (r : PQ) : Prop := ∃ bs, r.1 = x4 ++ bs ∧ PD t bs ∧ 0 ≤ r.2.1 ∧ r.2.1 ≤ a + 3 * t.length ∧ r.2.2 = big
/-- What is left is written well. -/
def IHd (W l : List Int) (big : Bool) (i : Nat) (t : List Int) (a : Int) : Prop := ∀ (N : Nat) (a2 : Int) (y : List Int), 1 ≤ N → N ≤ t.length → y.length + 3 * (t.length - N) < 20000 → 0 ≤ a2 → a2 ≤ a + 3 * N → EvP (fun k => wPD.l0 k l y ((i + N : Nat) : Int) W a2 big) (PDQ y (t.drop N) a2 big)
theorem pdq_run {x4 t hd : List Int} {a a2 : Int} {big : Bool} {r : PQ} (N : Nat) (hN : N ≤ t.length) (ha2 : a2 ≤ a + 3 * N) (h : PDQ (x4 ++ hd) (t.drop N) a2 big r) (hp : ∀ bs, PD (t.drop N) bs → PD (t.take N ++ t.drop N) (hd ++ bs)) : PDQ x4 t a big r := by
  obtain ⟨bs, e1, e2, e3, e4, e5⟩ := h
  have hdl : (t.drop N).length = t.length - N := List.length_drop
  have := hp bs e2
  rw [List.take_append_drop] at this
  exact ⟨hd ++ bs, by rw [e1, List.append_assoc], this, e3, by omega, e5⟩
theorem cut_is {l t : List Int} {i N : Nat} (hd : l.drop i = t) : ((l.take (((i + N : Nat) : Int)).toNat).drop (i : Int).toNat) = t.take N := by
  rw [Int.toNat_natCast, Int.toNat_natCast, ← hd, List.take_drop]
theorem wadd (i N : Nat) (h : i < 10000) (h2 : N < 10000) : wrap64 ((i : Int) + (N : Int)) = ((i + N : Nat) : Int) := by rw [w64 _ z_0]; omega
theorem next_is {l t : List Int} {i N : Nat} (hd : l.drop i = t) (hN : N < t.length) : ∃ x, rd l ((i + N : Nat) : Int) = x ∧ t.take (N + 1) = t.take N ++ [x] ∧ x ∈ t := by
  have h : l.drop (i + N) = t.drop N := by rw [← List.drop_drop, hd]
  have h2 : t.drop N = t[N] :: t.drop (N + 1) := List.drop_eq_getElem_cons hN
  exact ⟨t[N], rdI (by rw [h, h2]), by rw [List.take_succ_eq_append_getElem hN], List.getElem_mem hN⟩
section
variable (W l : List Int) (big : Bool) (i : Nat) (t x4 : List Int) (a : Int)
theorem pd_zfin (a2 : Int) (N : Nat) (hl : l.length < 100) (hi : i < l.length) (hd : l.drop i = t) (hul : t.length = l.length - i) (hb : x4.length + 3 * t.length < 20000) (ih : IHd W l big i t a) (h1 : 1 ≤ N) (h2 : N ≤ t.length) (h3 : N ≤ 64) (hz : ∀ x ∈ t.take N, x = 0) (ha : 0 ≤ a2) (ha2 : a2 ≤ a + 3 * N) :
    EvP (fun k => wPD.j3 k l x4 (i : Int) (N : Int) false W a2 big) (PDQ x4 t a big) := by
  have hcl : (t.take N).length = N := by rw [List.length_take]; omega
  have k1 : x4.length < 140737488355328 := by omega
  have c4 : wrap64 ((N : Int) - 1) = (N : Int) - 1 := w64 _ z_0
  have c5 : ((N : Int) - 1) % 256 = (N : Int) - 1 := by omega
  have r := ih N a2 (x4 ++ [Go.bits .or .u8 ((N : Int) - 1) 128]) h1 h2 z_2 ha ha2
  refine EvP.step (fun k => ?_) (r.mono fun v hv => pdq_run N h2 ha2 hv fun bs hbs => ?_)
  · rw [wPD.j3, if_neg z_3, if_pos k1, c4, c5, wadd i N z_0 z_0]
  · have := PD.zero (c := t.take N) z_0 z_0 hz hbs
    rw [hcl] at this
    exact this
theorem pd_zext (a2 : Int) (hl : l.length < 100) (hi : i < l.length) (hd : l.drop i = t) (hul : t.length = l.length - i) (hb : x4.length + 3 * t.length < 20000) (ih : IHd W l big i t a) (ha : 0 ≤ a2) (ha2 : a2 ≤ a + 2) : ∀ (d N : Nat) (_ : N + d = t.length) (_ : 1 ≤ N) (_ : N ≤ 64) (_ : ∀ x ∈ t.take N, x = 0),
    EvP (fun k => wPD.l1 k l x4 (i : Int) (N : Int) W a2 big) (PDQ x4 t a big)
  | d, N, h0, h1, h3, hz => by
    have fin := pd_zfin W l big i t x4 a a2 N hl hi hd hul hb ih h1 z_0 h3 hz ha z_0
    have k0 : (0 : Int) ≤ ((i + N : Nat) : Int) := by omega
    by_cases hlt : ((i + N : Nat) : Int) < (l.length : Int)
    · cases d with
      | zero => omega
      | succ d =>
        obtain ⟨x, e1, e2, _⟩ := next_is hd (N := N) z_0
        by_cases hx : x = 0
        · by_cases h64 : (N : Int) < 64
          · have nx := pd_zext a2 hl hi hd hul hb ih ha ha2 d (N + 1) z_0 z_0 z_0 (by
              intro y hy
              rw [e2] at hy
              rcases List.mem_append.1 hy with hy | hy
              · exact hz y hy
              · rw [List.mem_singleton.1 hy]; exact hx)
            refine EvP.step (f := fun k => wPD.j3 k l x4 (i : Int) (N : Int) true W a2 big) (fun k => ?_) (EvP.step (fun k => ?_) nx)
            · rw [wPD.l1, wadd i N z_0 z_0, if_pos hlt, if_pos k0, e1, if_pos hx, decide_eq_true h64]
            · rw [wPD.j3, if_pos rfl, wsucc N z_0]
          · refine EvP.step (fun k => ?_) fin
            rw [wPD.l1, wadd i N z_0 z_0, if_pos hlt, if_pos k0, e1, if_pos hx, decide_eq_false h64]
        · refine EvP.step (fun k => ?_) fin
          rw [wPD.l1, wadd i N z_0 z_0, if_pos hlt, if_pos k0, e1, if_neg hx]
    · refine EvP.step (fun k => ?_) fin
      rw [wPD.l1, wadd i N z_0 z_0, if_neg hlt]
end
theorem pd_l3 (W l : List Int) (n5 n6 : Int) (big : Bool) (a : Int) (seg : List Int) (hs : seg.length < 1000) (Q : PQ → Prop) : ∀ (t : List Int) (i : Nat) (x4 : List Int) (_ : seg.drop i = t) (_ : i ≤ seg.length) (_ : x4.length + t.length < 100000)
    (_ : EvP (fun k => wPD.l0 k l (x4 ++ t.map (fun x => x % 256)) (wrap64 (n5 + n6)) W a big) Q),
    EvP (fun k => wPD.l3 k l x4 n5 n6 seg (seg.length : Int) (i : Int) W a big) Q
  | [], i, x4, hd, hi, hb, h => by
    have : seg.length ≤ i := by simpa using hd
    refine EvP.step (fun k => ?_) h
    rw [wPD.l3, if_neg z_0, List.map_nil, List.append_nil]
  | x :: t, i, x4, hd, hi, hb, h => by
    obtain ⟨_, hlt, hd2⟩ := drop_head hd
    have hrd := rdI hd
    simp only [List.length_cons] at hb
    have nx := pd_l3 W l n5 n6 big a seg hs Q t (i + 1) (x4 ++ [x % 256]) hd2 z_0 z_2 (by rw [List.append_assoc]; exact h)
    refine EvP.step (fun k => ?_) nx
    rw [wPD.l3, if_pos z_0, if_pos z_0, if_pos z_0, if_pos z_0, hrd, wsucc i z_0]
theorem pd_l5 (W l : List Int) (n5 n6 : Int) (big : Bool) (a : Int) (seg : List Int) (hs : seg.length < 1000) (Q : PQ → Prop) : ∀ (t : List Int) (i : Nat) (x4 : List Int) (_ : seg.drop i = t) (_ : i ≤ seg.length) (_ : x4.length + 2 * t.length < 100000)
    (_ : EvP (fun k => wPD.l0 k l (x4 ++ t.flatMap be) (wrap64 (n5 + n6)) W a big) Q),
    EvP (fun k => wPD.l5 k l x4 n5 n6 seg (seg.length : Int) (i : Int) W a big) Q
  | [], i, x4, hd, hi, hb, h => by
    have : seg.length ≤ i := by simpa using hd
    refine EvP.step (fun k => ?_) h
    rw [wPD.l5, if_neg z_0, List.flatMap_nil, List.append_nil]
  | x :: t, i, x4, hd, hi, hb, h => by
    obtain ⟨_, hlt, hd2⟩ := drop_head hd
    have hrd := rdI hd
    simp only [List.length_cons] at hb
    have nx := pd_l5 W l n5 n6 big a seg hs Q t (i + 1) (x4 ++ be x) hd2 z_0 z_6 (by rw [List.append_assoc]; exact h)
    refine EvP.step (fun k => ?_) nx
    rw [wPD.l5, if_pos z_0, if_pos z_0, if_pos z_0, Option.bind_some, if_pos (by simp only [List.length_cons, List.length_nil]; omega), hrd, wsucc i z_0]
    rfl
section
variable (W : List Int) (hW : By W) (l : List Int) (big : Bool) (i : Nat) (t x4 : List Int) (a : Int)
theorem pd_bfin (a2 : Int) (N : Nat) (hl : l.length < 100) (hi : i < l.length) (hd : l.drop i = t) (hul : t.length = l.length - i) (hb : x4.length + 3 * t.length < 20000) (ih : IHd W l big i t a) (h1 : 1 ≤ N) (h2 : N ≤ t.length) (h3 : N ≤ 9) (hz : ∀ x ∈ t.take N, -128 ≤ x ∧ x < 128) (ha : 0 ≤ a2) (ha2 : a2 ≤ a + 3 * N) :
    EvP (fun k => wPD.j6 k l x4 (i : Int) (N : Int) false W a2 big) (PDQ x4 t a big) := by
  have hcl : (t.take N).length = N := by rw [List.length_take]; omega
  have k1 : x4.length < 140737488355328 := by omega
  have k2 : (0 : Int) ≤ (i : Int) := by omega
  have k3 : (i : Int) ≤ ((i + N : Nat) : Int) := by omega
  have k4 : ((i + N : Nat) : Int) ≤ (l.length : Int) := by omega
  have c4 : wrap64 ((N : Int) - 1) = (N : Int) - 1 := w64 _ z_0
  have c5 : ((N : Int) - 1) % 256 = (N : Int) - 1 := by omega
  have r := ih N a2 ((x4 ++ [(N : Int) - 1]) ++ (t.take N).map (fun x => x % 256)) h1 h2 (by simp only [List.length_append, List.length_cons, List.length_nil, List.length_map]; omega) ha ha2
  have g := pd_l3 W l (i : Int) (N : Int) big a2 (t.take N) z_0 (PDQ x4 t a big) (t.take N) 0 (x4 ++ [(N : Int) - 1]) List.drop_zero (Nat.zero_le _) z_2 (by
    rw [wadd i N z_0 z_0]
    rw [List.append_assoc] at r
    refine EvP.mono (EvP.congr (fun k => by rw [List.append_assoc]) r) fun v hv => pdq_run N h2 ha2 hv fun bs hbs => ?_
    have := PD.bytes (c := t.take N) z_0 z_0 hz hbs
    rw [hcl] at this
    exact this)
  refine EvP.step (fun k => ?_) g
  rw [wPD.j6, if_neg z_3, if_pos k1, if_pos k2, wadd i N z_0 z_0, if_pos k3, if_pos k4, c4, c5, cut_is hd]
  rfl
theorem pd_wfin (a2 : Int) (N : Nat) (hl : l.length < 100) (hi : i < l.length) (hd : l.drop i = t) (hul : t.length = l.length - i) (hb : x4.length + 3 * t.length < 20000) (ih : IHd W l big i t a) (h1 : 1 ≤ N) (h2 : N ≤ t.length) (h3 : N ≤ 5) (hz : ∀ x ∈ t, -32768 ≤ x ∧ x ≤ 32767) (ha : 0 ≤ a2) (ha2 : a2 ≤ a + 3 * N) :
    EvP (fun k => wPD.j9 k l x4 (i : Int) (N : Int) false W a2 big) (PDQ x4 t a big) := by
  have hcl : (t.take N).length = N := by rw [List.length_take]; omega
  have k1 : x4.length < 140737488355328 := by omega
  have k2 : (0 : Int) ≤ (i : Int) := by omega
  have k3 : (i : Int) ≤ ((i + N : Nat) : Int) := by omega
  have k4 : ((i + N : Nat) : Int) ≤ (l.length : Int) := by omega
  have c4 : wrap64 ((N : Int) - 1) = (N : Int) - 1 := w64 _ z_0
  have c5 : ((N : Int) - 1) % 256 = (N : Int) - 1 := by omega
  have hbe := be_len (t.take N)
  have r := ih N a2 ((x4 ++ [Go.bits .or .u8 ((N : Int) - 1) 64]) ++ (t.take N).flatMap be) h1 h2 z_2 ha ha2
  have g := pd_l5 W l (i : Int) (N : Int) big a2 (t.take N) z_0 (PDQ x4 t a big) (t.take N) 0 (x4 ++ [Go.bits .or .u8 ((N : Int) - 1) 64]) List.drop_zero (Nat.zero_le _) z_2 (by
    rw [wadd i N z_0 z_0]
    rw [List.append_assoc] at r
    refine EvP.mono (EvP.congr (fun k => by rw [List.append_assoc]) r) fun v hv => pdq_run N h2 ha2 hv fun bs hbs => ?_
    have := PD.words (c := t.take N) z_0 z_0 (fun x hx => hz x (List.mem_of_mem_take hx)) hbs
    rw [hcl] at this
    exact this)
  refine EvP.step (fun k => ?_) g
  rw [wPD.j9, if_neg z_3, if_pos k1, if_pos k2, wadd i N z_0 z_0, if_pos k3, if_pos k4, c4, c5, cut_is hd]
  rfl
include hW
theorem pd_bext (hl : l.length < 100) (hi : i < l.length) (hd : l.drop i = t) (hul : t.length = l.length - i) (hb : x4.length + 3 * t.length < 20000) (ih : IHd W l big i t a) (ha0 : a ≤ 50000) : ∀ (d N : Nat) (a2 : Int) (_ : N + d = t.length) (_ : 1 ≤ N) (_ : N ≤ 9) (_ : ∀ x ∈ t.take N, -128 ≤ x ∧ x < 128) (_ : 0 ≤ a2) (_ : a2 ≤ a + 1 + N),
    EvP (fun k => wPD.l2 k l x4 (i : Int) (N : Int) W a2 big) (PDQ x4 t a big)
  | d, N, a2, h0, h1, h3, hz, ha, ha2 => by
    have fin := fun (a3 : Int) (q1 : 0 ≤ a3) (q2 : a3 ≤ a + 3 * N) => pd_bfin W l big i t x4 a a3 N hl hi hd hul hb ih h1 z_0 h3 hz q1 q2
    have k0 : (0 : Int) ≤ ((i + N : Nat) : Int) := by omega
    by_cases hlt : ((i + N : Nat) : Int) < (l.length : Int)
    · cases d with
      | zero => omega
      | succ d =>
        obtain ⟨x, e1, e2, _⟩ := next_is hd (N := N) z_0
        by_cases hx : x ≥ -128
        · by_cases hx2 : x < 128
          · obtain ⟨c, a3, q1, q2, q3, q4, q5⟩ := way_is W hW a2 big 9 z_0 ha z_0
            have wc : wrap64 (1 + c) = 1 + c := w64 _ z_0
            by_cases h64 : (N : Int) < 1 + c
            · have nx := pd_bext hl hi hd hul hb ih ha0 d (N + 1) a3 z_0 z_0 z_0 (by
                intro y hy
                rw [e2] at hy
                rcases List.mem_append.1 hy with hy | hy
                · exact hz y hy
                · rw [List.mem_singleton.1 hy]; exact ⟨hx, hx2⟩) q3 z_0
              refine EvP.step (f := fun k => wPD.j6 k l x4 (i : Int) (N : Int) true W a3 big) (fun k => ?_) (EvP.step (fun k => ?_) nx)
              · rw [wPD.l2, wadd i N z_0 z_0, if_pos hlt, if_pos k0, e1, if_pos hx, if_pos hx2, q5, Option.bind_some]
                dsimp only
                rw [wc, decide_eq_true h64]
              · rw [wPD.j6, if_pos rfl, wsucc N z_0]
            · refine EvP.step (fun k => ?_) (fin a3 q3 z_0)
              rw [wPD.l2, wadd i N z_0 z_0, if_pos hlt, if_pos k0, e1, if_pos hx, if_pos hx2, q5, Option.bind_some]
              dsimp only
              rw [wc, decide_eq_false h64]
          · refine EvP.step (fun k => ?_) (fin a2 ha z_0)
            rw [wPD.l2, wadd i N z_0 z_0, if_pos hlt, if_pos k0, e1, if_pos hx, if_neg hx2]
        · refine EvP.step (fun k => ?_) (fin a2 ha z_0)
          rw [wPD.l2, wadd i N z_0 z_0, if_pos hlt, if_pos k0, e1, if_neg hx]
    · refine EvP.step (fun k => ?_) (fin a2 ha z_0)
      rw [wPD.l2, wadd i N z_0 z_0, if_neg hlt]
theorem pd_wext (hl : l.length < 100) (hi : i < l.length) (hd : l.drop i = t) (hul : t.length = l.length - i) (hb : x4.length + 3 * t.length < 20000) (ih : IHd W l big i t a) (ha0 : a ≤ 50000) (hz : ∀ x ∈ t, -32768 ≤ x ∧ x ≤ 32767) : ∀ (d N : Nat) (a2 : Int) (_ : N + d = t.length) (_ : 1 ≤ N) (_ : N ≤ 5) (_ : 0 ≤ a2) (_ : a2 ≤ a + 1 + N),
    EvP (fun k => wPD.l4 k l x4 (i : Int) (N : Int) W a2 big) (PDQ x4 t a big)
  | d, N, a2, h0, h1, h3, ha, ha2 => by
    have fin := fun (a3 : Int) (q1 : 0 ≤ a3) (q2 : a3 ≤ a + 3 * N) => pd_wfin W l big i t x4 a a3 N hl hi hd hul hb ih h1 z_0 h3 hz q1 q2
    by_cases hlt : ((i + N : Nat) : Int) < (l.length : Int)
    · cases d with
      | zero => omega
      | succ d =>
        obtain ⟨c, a3, q1, q2, q3, q4, q5⟩ := way_is W hW a2 big 5 z_0 ha z_0
        have wc : wrap64 (1 + c) = 1 + c := w64 _ z_0
        by_cases h64 : (N : Int) < 1 + c
        · have nx := pd_wext hl hi hd hul hb ih ha0 hz d (N + 1) a3 z_0 z_0 z_0 q3 z_0
          refine EvP.step (f := fun k => wPD.j9 k l x4 (i : Int) (N : Int) true W a3 big) (fun k => ?_) (EvP.step (fun k => ?_) nx)
          · rw [wPD.l4, wadd i N z_0 z_0, if_pos hlt, q5, Option.bind_some]
            dsimp only
            rw [wc, decide_eq_true h64]
          · rw [wPD.j9, if_pos rfl, wsucc N z_0]
        · refine EvP.step (fun k => ?_) (fin a3 q3 z_0)
          rw [wPD.l4, wadd i N z_0 z_0, if_pos hlt, q5, Option.bind_some]
          dsimp only
          rw [wc, decide_eq_false h64]
    · refine EvP.step (fun k => ?_) (fin a2 ha z_0)
      rw [wPD.l4, wadd i N z_0 z_0, if_neg hlt]
end

/-- What is left of the deltas is written in runs. -/
theorem pd_l0 (W : List Int) (hW : By W) (big : Bool) (l : List Int) (hl : l.length < 100) (hz : ∀ x ∈ l, -32768 ≤ x ∧ x ≤ 32767) : ∀ (m : Nat) (t : List Int) (i : Nat) (x4 : List Int) (a : Int) (_ : t.length ≤ m) (_ : l.drop i = t) (_ : i ≤ l.length) (_ : x4.length + 3 * t.length < 20000) (_ : 0 ≤ a) (_ : a + 3 * t.length ≤ 50000),
    EvP (fun k => wPD.l0 k l x4 (i : Int) W a big) (PDQ x4 t a big)
  | m, [], i, x4, a, hm, hd, hi, hb, ha, ha2 => by
    have : l.length ≤ i := by simpa using hd
    refine EvP.step (f := fun _ => some (x4, a, big)) (fun k => ?_) (EvP.now _ ⟨[], (List.append_nil _).symm, .nil, ha, by simp, rfl⟩)
    rw [wPD.l0, if_neg z_0]
  | 0, x :: t, i, x4, a, hm, hd, hi, hb, ha, ha2 => by simp at hm
  | m + 1, x :: t, i, x4, a, hm, hd, hi, hb, ha, ha2 => by
    obtain ⟨_, hlt, _⟩ := drop_head hd
    have hrd := rdI hd
    have hu : 1 ≤ (x :: t).length := by simp
    have ht1 : (x :: t).take 1 = [x] := rfl
    generalize x :: t = u at *
    have hul : u.length = l.length - i := by rw [← hd, List.length_drop]
    have hzu : ∀ y ∈ u, -32768 ≤ y ∧ y ≤ 32767 := fun y hy => hz y (by rw [← hd] at hy; exact List.mem_of_mem_drop hy)
    have ih : IHd W l big i u a := fun N a2 y h1 h2 h3 h4 h5 => by
      have hdl : (u.drop N).length = u.length - N := List.length_drop
      exact pd_l0 W hW big l hl hz m (u.drop N) (i + N) y a2 z_0 (by rw [← List.drop_drop, hd]) z_0 z_0 h4 z_0
    have c1 : (i : Int) < (l.length : Int) := by omega
    have c2 : (0 : Int) ≤ (i : Int) := by omega
    -- words
    have jw : ∀ a3 : Int, 0 ≤ a3 → a3 ≤ a + 2 → EvP (fun k => wPD.j4 k l x4 (i : Int) 1 false W a3 big) (PDQ x4 u a big) := fun a3 q1 q2 =>
      EvP.step (fun k => by rw [wPD.j4, if_neg z_3]; rfl) (pd_wext W hW l big i u x4 a hl hlt hd hul hb ih z_0 hzu (u.length - 1) 1 a3 z_0 z_0 z_0 q1 z_0)
    -- bytes or words
    have jb : ∀ a3 : Int, 0 ≤ a3 → a3 ≤ a + 1 → EvP (fun k => wPD.j1 k l x4 (i : Int) 1 false W a3 big) (PDQ x4 u a big) := by
      intro a3 q1 q2
      by_cases hx : x ≥ -128
      · by_cases hx2 : x < 128
        · obtain ⟨c, a4, _, _, q3, q4, q5⟩ := way_is W hW a3 big 4 z_0 q1 z_0
          by_cases hc : c > 0
          · refine EvP.step (f := fun k => wPD.j4 k l x4 (i : Int) 1 true W a4 big) (fun k => ?_) (EvP.step (fun k => by rw [wPD.j4, if_pos rfl]; rfl) (pd_bext W hW l big i u x4 a hl hlt hd hul hb ih z_0 (u.length - 1) 1 a4 z_0 z_0 z_0 (by rw [ht1]; intro y hy; rw [List.mem_singleton.1 hy]; exact ⟨hx, hx2⟩) q3 z_0))
            rw [wPD.j1, if_neg z_3, if_pos c2, if_pos c1, hrd, if_pos hx, if_pos hx2, q5, Option.bind_some, decide_eq_true hc]
          · refine EvP.step (fun k => ?_) (jw a4 q3 z_0)
            rw [wPD.j1, if_neg z_3, if_pos c2, if_pos c1, hrd, if_pos hx, if_pos hx2, q5, Option.bind_some, decide_eq_false hc]
        · refine EvP.step (fun k => ?_) (jw a3 q1 z_0)
          rw [wPD.j1, if_neg z_3, if_pos c2, if_pos c1, hrd, if_pos hx, if_neg hx2]
      · refine EvP.step (fun k => ?_) (jw a3 q1 z_0)
        rw [wPD.j1, if_neg z_3, if_pos c2, if_pos c1, hrd, if_neg hx]
    by_cases hx : x = 0
    · obtain ⟨c, a4, _, _, q3, q4, q5⟩ := way_is W hW a big 4 z_0 ha z_0
      by_cases hc : c > 0
      · refine EvP.step (f := fun k => wPD.j1 k l x4 (i : Int) 1 true W a4 big) (fun k => ?_) (EvP.step (fun k => by rw [wPD.j1, if_pos rfl]; rfl) (pd_zext W l big i u x4 a a4 hl hlt hd hul hb ih q3 z_0 (u.length - 1) 1 z_0 z_0 z_0 (by rw [ht1]; intro y hy; rw [List.mem_singleton.1 hy]; exact hx)))
        rw [wPD.l0, if_pos c1, if_pos c2, hrd, if_pos hx, q5, Option.bind_some, decide_eq_true hc]
      · refine EvP.step (fun k => ?_) (jb a4 q3 z_0)
        rw [wPD.l0, if_pos c1, if_pos c2, hrd, if_pos hx, q5, Option.bind_some, decide_eq_false hc]
    · refine EvP.step (fun k => ?_) (jb a ha z_0)
      rw [wPD.l0, if_pos c1, if_pos c2, hrd, if_neg hx]
theorem pd_is (W : List Int) (hW : By W) (big : Bool) (l : List Int) (hl : l.length < 100) (hz : ∀ x ∈ l, -32768 ≤ x ∧ x ≤ 32767) (a : Int) (ha : 0 ≤ a) (ha2 : a ≤ 40000) :
    EvP (fun k => wPD.f k W a big l) (fun r => PD l r.1 ∧ 0 ≤ r.2.1 ∧ r.2.1 ≤ a + 3 * l.length ∧ r.2.2 = big) :=
  (pd_l0 W hW big l hl hz l.length l 0 [] a (Nat.le_refl _) List.drop_zero (Nat.zero_le _) (by simp; omega) ha z_0).mono fun r ⟨bs, e1, e2, e3, e4, e5⟩ => ⟨by rw [e1]; exact e2, e3, e4, e5⟩
theorem flag_del : ∀ n : Fin 64, (¬ Go.bits .and .u8 (Go.bits .or .u8 (n.val : Int) 128) 128 = 0 ∧ ((Go.bits .and .u8 (Go.bits .or .u8 (n.val : Int) 128) 63) + 1) % 256 = (n.val : Int) + 1) ∧ (Go.bits .and .u8 (n.val : Int) 128 = 0 ∧ Go.bits .and .u8 (n.val : Int) 64 = 0 ∧ ((Go.bits .and .u8 (n.val : Int) 63) + 1) % 256 = (n.val : Int) + 1) ∧ (Go.bits .and .u8 (Go.bits .or .u8 (n.val : Int) 64) 128 = 0 ∧ ¬ Go.bits .and .u8 (Go.bits .or .u8 (n.val : Int) 64) 64 = 0 ∧ ((Go.bits .and .u8 (Go.bits .or .u8 (n.val : Int) 64) 63) + 1) % 256 = (n.val : Int) + 1) := by decide
theorem flag_n (c : List Int) (h1 : 1 ≤ c.length) (h2 : c.length ≤ 64) : (¬ Go.bits .and .u8 (Go.bits .or .u8 ((c.length : Int) - 1) 128) 128 = 0 ∧ ((Go.bits .and .u8 (Go.bits .or .u8 ((c.length : Int) - 1) 128) 63) + 1) % 256 = (c.length : Int)) ∧ (Go.bits .and .u8 ((c.length : Int) - 1) 128 = 0 ∧ Go.bits .and .u8 ((c.length : Int) - 1) 64 = 0 ∧ ((Go.bits .and .u8 ((c.length : Int) - 1) 63) + 1) % 256 = (c.length : Int)) ∧ (Go.bits .and .u8 (Go.bits .or .u8 ((c.length : Int) - 1) 64) 128 = 0 ∧ ¬ Go.bits .and .u8 (Go.bits .or .u8 ((c.length : Int) - 1) 64) 64 = 0 ∧ ((Go.bits .and .u8 (Go.bits .or .u8 ((c.length : Int) - 1) 64) 63) + 1) % 256 = (c.length : Int)) := by
  have h := flag_del ⟨c.length - 1, by omega⟩
  have hc1 : ((c.length - 1 : Nat) : Int) = (c.length : Int) - 1 := by omega
  have hc6 : (c.length : Int) - 1 + 1 = (c.length : Int) := by omega
  simp only [hc1, hc6] at h
  exact h
abbrev UD := List Int × Option Int
theorem fill_lt (A : List Int) (n : Nat) : (A.length : Int) < ((A ++ List.replicate (n + 1) (0 : Int)).length : Int) := by rw [fill_rd]; omega
theorem ud_l2 (X : List Int) (n : Int) (c m : Nat) (hc : c ≤ 9) (hX : 1 + c ≤ X.length) (Q : UD → Prop) : ∀ (t : List Int) (i : Nat) (A R : List Int) (_ : X.drop (1 + i) = t.map (fun x => x % 256) ++ R) (_ : i + t.length = c) (_ : A.length + t.length < 1000) (_ : t.length ≤ 9) (_ : ∀ x ∈ t, -128 ≤ x ∧ x < 128)
    (_ : EvP (fun k => fUD.l0 k (X.drop (1 + c)) n ((A ++ t) ++ List.replicate m 0) ((A ++ t).length : Int)) Q),
    EvP (fun k => fUD.l2 k X n (A ++ List.replicate (t.length + m) 0) (A.length : Int) (c : Int) (i : Int)) Q
  | [], i, A, R, hd, hi, hA, ht, hb, h => by
    simp only [List.length_nil] at hi
    have w : (1 + (c : Int)) % 256 = ((1 + c : Nat) : Int) := by omega
    rw [List.append_nil] at h
    refine EvP.step (fun k => ?_) h
    rw [fUD.l2, if_neg z_0, w, if_pos z_0, if_pos z_0, Int.toNat_natCast, List.length_nil, Nat.zero_add]
  | x :: t, i, A, R, hd, hi, hA, ht, hb, h => by
    simp only [List.length_cons] at hi ht hA
    rw [List.map_cons, List.cons_append] at hd
    obtain ⟨_, hlt, hd2⟩ := drop_head hd
    have hrd := rdI hd
    have hx := hb x List.mem_cons_self
    have nx := ud_l2 X n c m hc hX Q t (i + 1) (A ++ [x]) R hd2 z_0 z_1 z_0 (fun y hy => hb y (List.mem_cons_of_mem _ hy)) (by rw [List.append_assoc A [x] t]; exact h)
    have w : (1 + (i : Int)) % 256 = ((1 + i : Nat) : Int) := by omega
    have w2 : ((i : Int) + 1) % 256 = ((i + 1 : Nat) : Int) := by omega
    have hl : (A ++ [x]).length = A.length + 1 := by rw [List.length_append, List.length_singleton]
    rw [hl] at nx
    refine EvP.step (fun k => ?_) nx
    rw [fUD.l2, w, w2, if_pos z_0, if_pos z_0, if_pos z_0, if_pos z_0, List.length_cons, show t.length + 1 + m = (t.length + m) + 1 by omega, if_pos (fill_lt A _), fill_set A _ _ _ rfl, hrd, i8m x hx, i16w x z_0, wsucc _ z_0]
theorem ud_l1 (X : List Int) (n : Int) (c m : Nat) (hc : c ≤ 5) (hX : 1 + 2 * c ≤ X.length) (Q : UD → Prop) : ∀ (t : List Int) (i : Nat) (A R : List Int) (_ : X.drop (1 + 2 * i) = t.flatMap be ++ R) (_ : i + t.length = c) (_ : A.length + t.length < 1000) (_ : t.length ≤ 5) (_ : ∀ x ∈ t, -32768 ≤ x ∧ x ≤ 32767)
    (_ : EvP (fun k => fUD.l0 k (X.drop (1 + 2 * c)) n ((A ++ t) ++ List.replicate m 0) ((A ++ t).length : Int)) Q),
    EvP (fun k => fUD.l1 k X n (A ++ List.replicate (t.length + m) 0) (A.length : Int) (c : Int) (i : Int)) Q
  | [], i, A, R, hd, hi, hA, ht, hb, h => by
    simp only [List.length_nil] at hi
    have w : (1 + (2 * (c : Int)) % 256) % 256 = ((1 + 2 * c : Nat) : Int) := by omega
    rw [List.append_nil] at h
    refine EvP.step (fun k => ?_) h
    rw [fUD.l1, if_neg z_0, w, if_pos z_0, if_pos z_0, Int.toNat_natCast, List.length_nil, Nat.zero_add]
  | x :: t, i, A, R, hd, hi, hA, ht, hb, h => by
    simp only [List.length_cons] at hi ht hA
    rw [List.flatMap_cons, List.append_assoc] at hd
    have hd2 : X.drop (1 + 2 * (i + 1)) = t.flatMap be ++ R := by rw [show 1 + 2 * (i + 1) = (1 + 2 * i) + (be x).length by simp [be]; omega]; exact drop_app hd
    have hx := hb x List.mem_cons_self
    have nx := ud_l1 X n c m hc hX Q t (i + 1) (A ++ [x]) R hd2 z_0 z_1 z_0 (fun y hy => hb y (List.mem_cons_of_mem _ hy)) (by rw [List.append_assoc A [x] t]; exact h)
    have w : (1 + (2 * (i : Int)) % 256) % 256 = ((1 + 2 * i : Nat) : Int) := by omega
    have w2 : ((i : Int) + 1) % 256 = ((i + 1 : Nat) : Int) := by omega
    have hl : (A ++ [x]).length = A.length + 1 := by rw [List.length_append, List.length_singleton]
    rw [hl] at nx
    refine EvP.step (fun k => ?_) nx
    rw [fUD.l1, w, w2, if_pos z_0, if_pos z_0, if_pos z_0, Int.toNat_natCast, hd, u16_be, Option.bind_some, if_pos z_0, List.length_cons, show t.length + 1 + m = (t.length + m) + 1 by omega, if_pos (fill_lt A _), fill_set A _ _ _ rfl, i16m x hx, wsucc _ z_0]
theorem ud_l0 (rest : List Int) (hrest : rest.length < 50000) (n : Nat) (hn : n < 200) {t bs : List Int} (h : PD t bs) : ∀ (A : List Int) (_ : A.length + t.length = n),
    EvP (fun k => fUD.l0 k (bs ++ rest) (n : Int) (A ++ List.replicate t.length 0) (A.length : Int)) (fun r => r = (A ++ t, none)) := by
  induction h with
  | nil =>
    intro A h1
    simp only [List.length_nil] at h1
    refine EvP.step (f := fun _ => some (A ++ List.replicate ([] : List Int).length 0, none)) (fun k => ?_) (EvP.now _ rfl)
    rw [fUD.l0, if_neg z_0]
  | @zero c t bs q1 q2 q3 hr ih =>
    intro A h1
    rw [List.length_append] at h1
    have nx := ih (A ++ c) z_4
    have e : c = List.replicate c.length 0 := List.eq_replicate_iff.2 ⟨rfl, q3⟩
    rw [List.length_append] at nx
    have e2 : (A ++ c) ++ List.replicate t.length 0 = A ++ List.replicate (c ++ t).length 0 := by
      conv => lhs; rw [e]
      rw [List.append_assoc, List.replicate_append_replicate, List.length_append]
    rw [e2, List.append_assoc A c t] at nx
    have k0 : (A.length : Int) < (n : Int) := by omega
    have wn : wrap64 ((A.length : Int) + (c.length : Int)) = ((A.length + c.length : Nat) : Int) := wadd _ _ z_0 z_0
    obtain ⟨⟨f1, f2⟩, _, _⟩ := flag_n c q1 q2
    generalize hX : Go.bits .or .u8 ((c.length : Int) - 1) 128 :: bs ++ rest = X
    have hX0 : rd X 0 = Go.bits .or .u8 ((c.length : Int) - 1) 128 := by rw [← hX]; rfl
    have hX1 : X.drop 1 = bs ++ rest := by rw [← hX]; rfl
    have hXl : X.length = (bs ++ rest).length + 1 := by rw [← hX]; rfl
    clear f1
    refine EvP.step (fun k => ?_) nx
    rw [fUD.l0, if_pos k0, if_neg (by rw [hXl]; omega), if_pos (by rw [hXl]; omega), hX0, if_neg (flag_n c q1 q2).1.1, if_pos (by rw [hXl]; omega), f2, wn, hX1]
  | @bytes c t bs q1 q2 q3 hr ih =>
    intro A h1
    rw [List.length_append] at h1
    have nx := ih (A ++ c) z_4
    have k0 : (A.length : Int) < (n : Int) := by omega
    have hbl := hr.len
    have hml : (c.map (fun x => x % 256)).length = c.length := List.length_map _
    generalize hX : ((c.length : Int) - 1) :: c.map (fun x => x % 256) ++ bs ++ rest = X
    have hX0 : rd X 0 = (c.length : Int) - 1 := by rw [← hX]; rfl
    have hXl : X.length = 1 + c.length + bs.length + rest.length := by rw [← hX]; simp only [List.length_append, List.length_cons, hml]; omega
    have hX1 : X.drop (1 + c.length) = bs ++ rest := by rw [← hX, ← hml, Nat.add_comm, List.cons_append, List.cons_append, List.drop_succ_cons, List.append_assoc, List.drop_left]
    have hX2 : X.drop (1 + 0) = c.map (fun x => x % 256) ++ (bs ++ rest) := by rw [← hX, List.cons_append, List.cons_append, List.drop_succ_cons, List.drop_zero, List.append_assoc]
    have k1 : ¬ (X.length : Int) = 0 := by omega
    have k2 : 0 < (X.length : Int) := by omega
    have k3 : ¬ (X.length : Int) < 1 + (c.length : Int) := by omega
    have k4 : ¬ ((A.length + c.length : Nat) : Int) > (n : Int) := by omega
    have k5 : A.length < 10000 := by omega
    rw [← hX1] at nx
    have g := ud_l2 X (n : Int) c.length t.length q2 z_0 _ c 0 A (bs ++ rest) hX2 z_0 z_0 q2 q3 nx
    rw [← List.length_append] at g
    obtain ⟨_, ⟨f1, f2, f3⟩, _⟩ := flag_n c q1 z_0
    refine (EvP.step (fun k => ?_) g).mono fun r hr => by rw [hr, List.append_assoc]
    rw [fUD.l0, if_pos k0, if_neg k1, if_pos k2, hX0, if_pos f1, f3, wadd _ _ k5 (Nat.lt_of_le_of_lt q2 (by decide)), if_neg k4, if_pos f2, if_neg k3]
    rfl
  | @words c t bs q1 q2 q3 hr ih =>
    intro A h1
    rw [List.length_append] at h1
    have nx := ih (A ++ c) z_4
    have k0 : (A.length : Int) < (n : Int) := by omega
    have hbl := hr.len
    have hml := be_len c
    generalize hX : Go.bits .or .u8 ((c.length : Int) - 1) 64 :: c.flatMap be ++ bs ++ rest = X
    have hX0 : rd X 0 = Go.bits .or .u8 ((c.length : Int) - 1) 64 := by rw [← hX]; rfl
    have hXl : X.length = 1 + 2 * c.length + bs.length + rest.length := by rw [← hX]; simp only [List.length_append, List.length_cons, hml]; omega
    have hX1 : X.drop (1 + 2 * c.length) = bs ++ rest := by rw [← hX, ← hml, Nat.add_comm, List.cons_append, List.cons_append, List.drop_succ_cons, List.append_assoc, List.drop_left]
    have hX2 : X.drop (1 + 2 * 0) = c.flatMap be ++ (bs ++ rest) := by rw [← hX, List.cons_append, List.cons_append, List.drop_succ_cons, List.drop_zero, List.append_assoc]
    have k1 : ¬ (X.length : Int) = 0 := by omega
    have k2 : 0 < (X.length : Int) := by omega
    have k3 : ¬ (X.length : Int) < 1 + 2 * (c.length : Int) := by omega
    have k4 : ¬ ((A.length + c.length : Nat) : Int) > (n : Int) := by omega
    have k5 : A.length < 10000 := by omega
    rw [← hX1] at nx
    have g := ud_l1 X (n : Int) c.length t.length q2 z_0 _ c 0 A (bs ++ rest) hX2 z_0 z_0 q2 q3 nx
    rw [← List.length_append] at g
    obtain ⟨_, _, ⟨f1, f2, f3⟩⟩ := flag_n c q1 z_0
    refine (EvP.step (fun k => ?_) g).mono fun r hr => by rw [hr, List.append_assoc]
    rw [fUD.l0, if_pos k0, if_neg k1, if_pos k2, hX0, if_pos f1, f3, wadd _ _ k5 (Nat.lt_of_le_of_lt q2 (by decide)), if_neg k4, if_neg f2, if_neg k3]
    rfl
theorem ud_is (t bs rest : List Int) (h : PD t bs) (ht : t.length < 200) (hrest : rest.length < 50000) : Ev (fun k => fUD.f k (bs ++ rest) (t.length : Int)) (t, none) := by
  obtain ⟨r, hr, rfl⟩ := ud_l0 rest hrest t.length ht h [] z_3
  refine Ev.congr (fun k => ?_) hr
  unfold fUD.f
  rw [if_pos z_0, if_pos z_0, Int.toNat_natCast]
  rfl

def I16 (l : List Int) : Prop := ∀ x ∈ l, -32768 ≤ x ∧ x ≤ 32767
theorem pt_l0 (B rest : List Int) (n : Nat) (hn : n < 1000) (a1 : Int) (hB : B.length < 100000) : ∀ (t A : List Int) (_ : B.drop (2 * A.length) = t.flatMap be ++ rest) (_ : 2 * A.length ≤ B.length) (_ : A.length + t.length = n) (_ : I16 t),
    Ev (fun k => tPT.l0 k B a1 0 (n : Int) (A.length : Int) (A ++ List.replicate t.length 0)) (A ++ t, wrap64 (0 + (wrap64 (a1 * 2))), none)
  | [], A, hd, h1, h2, hb => by
    refine Ev.step (f := fun _ => some (A ++ [], wrap64 (0 + (wrap64 (a1 * 2))), none)) (fun k => ?_) (Ev.now _)
    simp only [List.length_nil] at h2
    rw [tPT.l0, if_neg z_0]
    rfl
  | x :: t, A, hd, h1, h2, hb => by
    rw [List.flatMap_cons, List.append_assoc] at hd
    have hx := hb x List.mem_cons_self
    have hd2 := drop_app hd
    simp only [List.length_cons] at h2
    have hlen : 2 * A.length + 2 ≤ B.length := by have := congrArg List.length hd; simp only [List.length_drop, List.length_append, be, List.length_cons, List.length_nil] at this; omega
    have nx := pt_l0 B rest n hn a1 hB t (A ++ [x]) (by rw [List.length_append, List.length_singleton, show 2 * (A.length + 1) = 2 * A.length + 2 by omega]; exact hd2) z_1 z_1 (fun y hy => hb y (List.mem_cons_of_mem _ hy))
    rw [List.append_assoc A [x] t, List.length_append, List.length_singleton] at nx
    refine Ev.step (fun k => ?_) nx
    have c1 : (A.length : Int) < (n : Int) := by omega
    have c2 : (0 : Int) ≤ ((2 * A.length : Nat) : Int) := by omega
    have c3 : ((2 * A.length : Nat) : Int) ≤ (B.length : Int) := by omega
    have c4 : (0 : Int) ≤ (A.length : Int) := by omega
    have w : wrap64 ((A.length : Int) * 2) = ((2 * A.length : Nat) : Int) := by rw [w64 _ z_0]; omega
    rw [tPT.l0, w, if_pos c1, if_pos c2, if_pos c3, Int.toNat_natCast, hd, u16_be, Option.bind_some, if_pos c4, List.length_cons, if_pos (fill_lt A _), fill_set A _ _ _ rfl, wsucc _ z_0, i16m x hx]
theorem pt_is (t rest : List Int) (ht : t.length < 1000) (hr : rest.length < 60000) (hb : I16 t) : Ev (fun k => tPT.f k (t.flatMap be ++ rest) (t.length : Int)) (t, 2 * (t.length : Int), none) := by
  have hl : (t.flatMap be ++ rest).length = 2 * t.length + rest.length := by rw [List.length_append, be_len]
  have h := pt_l0 (t.flatMap be ++ rest) rest t.length ht (t.length : Int) z_0 t [] rfl (Nat.zero_le _) z_3 hb
  rw [w64 ((t.length : Int) * 2) z_0, w64 (0 + _) z_0, show (0 : Int) + (t.length : Int) * 2 = 2 * (t.length : Int) by omega] at h
  have c1 : ¬ ((t.flatMap be ++ rest).length : Int) < (t.length : Int) * 2 := by omega
  have c2 : (0 : Int) ≤ (t.length : Int) := by omega
  have c3 : t.length ≤ 140737488355328 := by omega
  refine Ev.congr (fun k => ?_) h
  unfold tPT.f
  rw [w64 _ z_0, if_neg c1, if_pos c2, Int.toNat_natCast, if_pos c3, Option.bind_some, List.length_replicate]
  rfl
/-- What a writer of numbers writes. -/
theorem co_l0 (l : List Int) (hl : l.length < 1000) (hb : I16 l) : ∀ (t A : List Int) (_ : l.drop A.length = t) (_ : A.length ≤ l.length), Ev (fun k => tCo.l0 k A l (l.length : Int) (A.length : Int)) (A ++ t)
  | [], A, hd, hi => by
    have : l.length ≤ A.length := by simpa using hd
    refine Ev.step (f := fun _ => some A) (fun k => ?_) (by simpa using Ev.now A)
    rw [tCo.l0, if_neg z_0]
  | x :: t, A, hd, hi => by
    obtain ⟨hg, hlt, hd2⟩ := drop_head hd
    have hrd := rdI hd
    have hx := hb x (List.mem_of_getElem? hg)
    have nx := co_l0 l hl hb t (A ++ [x]) z_5 z_1
    rw [List.append_assoc A [x] t, List.length_append, List.length_singleton] at nx
    refine Ev.step (fun k => ?_) nx
    rw [tCo.l0, if_pos z_0, if_pos z_0, if_pos z_0, if_pos z_0, hrd, w64 x z_0, wsucc _ z_0]
theorem co_is (l : List Int) (hl : l.length < 1000) (hb : I16 l) : Ev (fun k => tCo.f k l) l := co_l0 l hl hb l [] rfl (Nat.zero_le _)
theorem ni_l0 (l : List Int) (hl : l.length < 1000) (hb : I16 l) : ∀ (t A : List Int) (_ : l.drop A.length = t) (_ : A.length ≤ l.length), Ev (fun k => nI.l0 k A l (l.length : Int) (A.length : Int)) (A ++ t)
  | [], A, hd, hi => by
    have : l.length ≤ A.length := by simpa using hd
    refine Ev.step (f := fun _ => some A) (fun k => ?_) (by simpa using Ev.now A)
    rw [nI.l0, if_neg z_0]
  | x :: t, A, hd, hi => by
    obtain ⟨hg, hlt, hd2⟩ := drop_head hd
    have hrd := rdI hd
    have hx := hb x (List.mem_of_getElem? hg)
    have nx := ni_l0 l hl hb t (A ++ [x]) z_5 z_1
    rw [List.append_assoc A [x] t, List.length_append, List.length_singleton] at nx
    refine Ev.step (fun k => ?_) nx
    rw [nI.l0, if_pos z_0, if_pos z_0, if_pos z_0, if_pos z_0, hrd, w64 x z_0, wsucc _ z_0]
theorem ni_is (l : List Int) (hl : l.length < 1000) (hb : I16 l) : Ev (fun k => nI.f k l) l := ni_l0 l hl hb l [] rfl (Nat.zero_le _)
theorem nu_l0 (l : List Int) (hl : l.length < 1000) (hb : I16 l) : ∀ (t A : List Int) (_ : l.drop A.length = t) (_ : A.length ≤ l.length), Ev (fun k => nU.l0 k A l (l.length : Int) (A.length : Int)) (A ++ t)
  | [], A, hd, hi => by
    have : l.length ≤ A.length := by simpa using hd
    refine Ev.step (f := fun _ => some A) (fun k => ?_) (by simpa using Ev.now A)
    rw [nU.l0, if_neg z_0]
  | x :: t, A, hd, hi => by
    obtain ⟨hg, hlt, hd2⟩ := drop_head hd
    have hrd := rdI hd
    have hx := hb x (List.mem_of_getElem? hg)
    have nx := nu_l0 l hl hb t (A ++ [x]) z_5 z_1
    rw [List.append_assoc A [x] t, List.length_append, List.length_singleton] at nx
    refine Ev.step (fun k => ?_) nx
    rw [nU.l0, if_pos z_0, if_pos z_0, if_pos z_0, if_pos z_0, hrd, w64 x z_0, wsucc _ z_0]
theorem nu_is (l : List Int) (hl : l.length < 1000) (hb : I16 l) : Ev (fun k => nU.f k l) l := nu_l0 l hl hb l [] rfl (Nat.zero_le _)
theorem eq_l0 (l : List Int) (hl : l.length < 1000000) : ∀ (t : List Int) (i : Nat) (_ : l.drop i = t) (_ : i ≤ l.length), Ev (fun k => sEq.l0 k l l (l.length : Int) (i : Int)) true
  | [], i, hd, hi => by
    have : l.length ≤ i := by simpa using hd
    refine Ev.step (f := fun _ => some true) (fun k => ?_) (Ev.now _)
    rw [sEq.l0, if_neg z_0]
  | x :: t, i, hd, hi => by
    obtain ⟨_, hlt, hd2⟩ := drop_head hd
    have nx := eq_l0 l hl t (i + 1) hd2 z_0
    refine Ev.step (fun k => ?_) nx
    rw [sEq.l0, if_pos z_0, if_pos z_0, if_pos z_0, if_pos z_0, if_pos rfl, wsucc i z_0]
theorem eq_is (l : List Int) (hl : l.length < 1000000) : Ev (fun k => sEq.f k l l) true := Ev.congr (fun k => if_pos rfl) (eq_l0 l hl l 0 rfl (Nat.zero_le _))
/-- Two rows told equal are equal. -/
theorem eqv_l0 (l m : List Int) (hl : l.length < 1000000) (hm : l.length = m.length) : ∀ (t u : List Int) (i : Nat) (_ : l.drop i = t) (_ : m.drop i = u) (_ : i ≤ l.length), EvP (fun k => sEq.l0 k l m (l.length : Int) (i : Int)) (fun b => b = true → t = u)
  | [], u, i, hd, he, hi => by
    have : l.length ≤ i := by simpa using hd
    refine EvP.step (f := fun _ => some true) (fun k => ?_) (EvP.now _ fun _ => by rw [← he, List.drop_eq_nil_of_le z_0])
    rw [sEq.l0, if_neg z_0]
  | x :: t, u, i, hd, he, hi => by
    obtain ⟨_, hlt, hd2⟩ := drop_head hd
    have hrd := rdI hd
    have hu : u = m[i] :: m.drop (i + 1) := by rw [← he]; exact List.drop_eq_getElem_cons z_0
    have hru := rdI (l := m) (i := i) (by rw [he, hu])
    have nx := eqv_l0 l m hl hm t (m.drop (i + 1)) (i + 1) hd2 rfl z_0
    by_cases hx : x = m[i]
    · refine EvP.step (fun k => ?_) (nx.mono fun b hb hbt => by rw [hu, hx, hb hbt])
      rw [sEq.l0, if_pos z_0, if_pos z_0, if_pos z_0, if_pos z_0, hrd, hru, if_pos hx, wsucc i z_0]
    · refine EvP.step (f := fun _ => some false) (fun k => ?_) (EvP.now _ z_3)
      rw [sEq.l0, if_pos z_0, if_pos z_0, if_pos z_0, if_pos z_0, hrd, hru, if_neg hx]
theorem eqv_is (l m : List Int) (hl : l.length < 1000000) : EvP (fun k => sEq.f k l m) (fun b => b = true → l = m) := by
  by_cases h : (l.length : Int) = (m.length : Int)
  · exact EvP.congr (fun k => if_pos h) (eqv_l0 l m hl z_0 l m 0 rfl rfl (Nat.zero_le _))
  · exact EvP.congr (f := fun _ => some false) (fun k => if_neg h) (EvP.now _ z_3)

def flg (i o : Bool) : Int := Go.bits .or .i64 (if i then Go.bits .or .i64 32768 16384 else 32768) (if o then 8192 else 0)
theorem flg_is (i o : Bool) : 0 ≤ flg i o ∧ flg i o < 65536 ∧ (Go.bits .and .u16 (flg i o) 32768 != 0) = true ∧ (Go.bits .and .u16 (flg i o) 16384 != 0) = i ∧ (Go.bits .and .u16 (flg i o) 8192 != 0) = o := by
  cases i <;> cases o <;> decide
/-- A tuple that the law takes. -/
structure Md (m n : Nat) (x : S62) : Prop where
  m1 : 1 ≤ m ∧ m ≤ 3
  n1 : 1 ≤ n ∧ n ≤ 60
  p : x.f0.length = m
  pb : I16 x.f0
  inter : x.f1 = true → x.f2.length = m ∧ x.f3.length = m ∧ I16 x.f2 ∧ I16 x.f3
  nint : x.f1 = false → x.f2 = [] ∧ x.f3 = []
  rise : Rise 0 x.f4
  len : x.f4.length < 60
  dx : x.f5.length = (if x.f4 = [] then n else x.f4.length)
  dy : x.f6.length = (if x.f4 = [] then n else x.f4.length)
  bx : I16 x.f5
  by_ : I16 x.f6
def hdB (x : S62) (size : Nat) (o : Bool) : List Int := be (size : Int) ++ (be (flg x.f1 o) ++ (x.f0.flatMap be ++ (if x.f1 then x.f2.flatMap be ++ x.f3.flatMap be else [])))
def hdR (x : S62) (size : Nat) (o : Bool) : S167 := ⟨(size : Int), flg x.f1 o, ⟨x.f0⟩, ⟨⟨x.f2⟩, ⟨x.f3⟩⟩⟩
theorem hdB_len {m n : Nat} {x : S62} (h : Md m n x) (size : Nat) (o : Bool) : (hdB x size o).length = 4 + 2 * m + (if x.f1 then 4 * m else 0) := by
  unfold hdB
  cases e : x.f1 with
  | true =>
    obtain ⟨h1, h2, _⟩ := h.inter e
    simp only [List.length_append, be_len, h.p, h1, h2, if_true, be, List.length_cons, List.length_nil]
    omega
  | false =>
    simp only [List.length_append, be_len, h.p, Bool.false_eq_true, if_false, be, List.length_cons, List.length_nil]
    omega
theorem hdr_is {m n : Nat} {x : S62} (h : Md m n x) (size : Nat) (o : Bool) (hs : size < 60000) (rest : List Int) (hr : rest.length < 50000) : Ev (fun k => hdr76.f k (hdB x size o ++ rest) (m : Int)) (hdR x size o, ((hdB x size o).length : Int)) := by
  have hlen := hdB_len h size o
  obtain ⟨g1, g2, g3, g4, g5⟩ := flg_is x.f1 o
  have hm := h.m1
  have hp := be_len x.f0
  have hsz : (size : Int) % 65536 = (size : Int) := by omega
  have hfl : flg x.f1 o % 65536 = flg x.f1 o := by omega
  generalize hL : hdB x size o ++ rest = L
  have hLl : L.length = (hdB x size o).length + rest.length := by rw [← hL, List.length_append]
  generalize hE : (if x.f1 then x.f2.flatMap be ++ x.f3.flatMap be else []) = E
  have hB : hdB x size o = be (size : Int) ++ (be (flg x.f1 o) ++ (x.f0.flatMap be ++ E)) := by rw [← hE]; rfl
  have d0 : L.drop 0 = be (size : Int) ++ (be (flg x.f1 o) ++ (x.f0.flatMap be ++ (E ++ rest))) := by rw [List.drop_zero, ← hL, hB]; simp only [List.append_assoc]
  have d2 : L.drop 2 = be (flg x.f1 o) ++ (x.f0.flatMap be ++ (E ++ rest)) := drop_app d0
  have d4 : L.drop 4 = x.f0.flatMap be ++ (E ++ rest) := drop_app d2
  have d5 : L.drop (4 + 2 * m) = E ++ rest := by have := drop_app d4; rw [hp, h.p] at this; exact this
  have k4 : 4 ≤ L.length := by omega
  have hEl : E.length ≤ 6000 := by rw [hB] at hlen; simp only [List.length_append, hp, h.p, be, List.length_cons, List.length_nil] at hlen; split at hlen <;> omega
  obtain ⟨K1, hK1⟩ := pt_is x.f0 (E ++ rest) (by rw [h.p]; omega) z_4 h.pb
  rw [h.p] at hK1
  cases e : x.f1 with
  | false =>
    have g4' := g4.trans e
    rw [e] at hlen hE
    simp only [Bool.false_eq_true, if_false] at hlen hE
    have k5 : (none : Option Int) = none ∧ 0 ≤ 2 * (m : Int) ∧ 4 + 2 * (m : Int) ≤ L.length := ⟨rfl, by omega, by omega⟩
    obtain ⟨n1, n2⟩ := h.nint e
    refine ⟨K1, fun k hk => ?_⟩
    have q := hK1 k hk
    dsimp only at q ⊢
    unfold hdr76.f
    rw [if_pos k4, d0, u16_be, Option.bind_some, d2, u16_be, Option.bind_some, hsz, hfl, if_pos g3, d4, q, Option.bind_some]
    dsimp only
    rw [if_pos k5, if_neg (by rw [g4']; simp)]
    unfold hdR
    rw [n1, n2, hlen]
    congr 2
  | true =>
    have g4' := g4.trans e
    rw [e] at hlen hE
    simp only [if_true] at hlen hE
    obtain ⟨i1, i2, i3, i4⟩ := h.inter e
    have hp2 := be_len x.f2
    rw [← hE, List.append_assoc] at d5
    have d6 : (x.f2.flatMap be ++ (x.f3.flatMap be ++ rest)).drop (2 * m) = x.f3.flatMap be ++ rest := by rw [← i1, ← hp2, List.drop_left]
    have hp3 := be_len x.f3
    obtain ⟨K2, hK2⟩ := pt_is x.f2 (x.f3.flatMap be ++ rest) z_0 z_4 i3
    obtain ⟨K3, hK3⟩ := pt_is x.f3 rest z_0 z_0 i4
    rw [i1] at hK2
    rw [i2] at hK3
    have k5 : (none : Option Int) = none ∧ 0 ≤ 2 * (m : Int) ∧ 4 + 2 * (m : Int) ≤ L.length := ⟨rfl, by omega, by omega⟩
    have k6 : (none : Option Int) = none ∧ 0 ≤ 2 * (m : Int) ∧ 4 + 2 * (m : Int) + 2 * (m : Int) * 2 ≤ L.length := ⟨rfl, by omega, by omega⟩
    have t1 : (4 + 2 * (m : Int)).toNat = 4 + 2 * m := by omega
    have t2 : (2 * (m : Int)).toNat = 2 * m := by omega
    refine ⟨max K1 (max K2 K3), fun k hk => ?_⟩
    have q := hK1 k z_0
    have q2 := hK2 k z_0
    have q3 := hK3 k z_0
    dsimp only at q q2 q3 ⊢
    unfold hdr76.f
    rw [if_pos k4, d0, u16_be, Option.bind_some, d2, u16_be, Option.bind_some, hsz, hfl, if_pos g3, d4, q, Option.bind_some]
    dsimp only
    rw [if_pos k5, if_pos g4', t1, d5, q2, Option.bind_some]
    dsimp only
    rw [if_pos k6, t2, d6, q3, Option.bind_some]
    dsimp only
    rw [if_pos rfl]
    unfold hdR
    rw [hlen]
    congr 2
    omega
/-- Tuples as they are written: the headers read, the headers' bytes, the data's bytes. -/
inductive Tw (sh : Option (List Int)) : List S62 → List S167 → List Int → List Int → Prop
  | nil : Tw sh [] [] [] []
  | cons {x t rs hs ds} (own : Bool) (pb bx by_ : List Int) : (own = true → PK x.f4 pb) → (own = false → pb = [] ∧ sh = some x.f4) → PD x.f5 bx → PD x.f6 by_ → Tw sh t rs hs ds →
      Tw sh (x :: t) (hdR x (pb ++ (bx ++ by_)).length own :: rs) (hdB x (pb ++ (bx ++ by_)).length own ++ hs) ((pb ++ (bx ++ by_)) ++ ds)
theorem Tw.snoc {sh : Option (List Int)} {t : List S62} {rs : List S167} {hs ds : List Int} (h : Tw sh t rs hs ds) {x : S62} (own : Bool) (pb bx by_ : List Int) (h1 : own = true → PK x.f4 pb) (h2 : own = false → pb = [] ∧ sh = some x.f4) (h3 : PD x.f5 bx) (h4 : PD x.f6 by_) :
    Tw sh (t ++ [x]) (rs ++ [hdR x (pb ++ (bx ++ by_)).length own]) (hs ++ hdB x (pb ++ (bx ++ by_)).length own) (ds ++ (pb ++ (bx ++ by_))) := by
  induction h with
  | nil =>
    have := Tw.cons (sh := sh) own pb bx by_ h1 h2 h3 h4 Tw.nil
    rw [List.append_nil, List.append_nil] at this
    exact this
  | cons o p b c q1 q2 q3 q4 _ ih =>
    have := Tw.cons (sh := sh) o p b c q1 q2 q3 q4 ih
    simpa only [List.cons_append, List.append_assoc] using this
theorem PK.len {l b : List Int} (h : PK l b) : b.length ≤ 2 + 3 * l.length := by
  obtain ⟨hd, bs, rfl, hp, ho⟩ := h
  have := hp.len
  rw [List.length_append]
  rcases ho with rfl | ⟨_, rfl⟩ <;> simp only [List.length_cons, List.length_nil] <;> omega
theorem one_len {m n : Nat} {x : S62} (h : Md m n x) {own : Bool} {pb bx by_ : List Int} {sh : Option (List Int)} (h1 : own = true → PK x.f4 pb) (h2 : own = false → pb = [] ∧ sh = some x.f4) (h3 : PD x.f5 bx) (h4 : PD x.f6 by_) : (pb ++ (bx ++ by_)).length ≤ 600 := by
  have a3 := h3.len
  have a4 := h4.len
  have b1 := h.dx
  have b2 := h.dy
  have b3 := h.n1
  have b4 := h.len
  have a1 : pb.length ≤ 2 + 3 * x.f4.length := by
    cases own with
    | true => exact (h1 rfl).len
    | false => rw [(h2 rfl).1]; simp
  simp only [List.length_append]
  split at b1 <;> split at b2 <;> omega
theorem Tw.len {m n : Nat} {sh : Option (List Int)} {t : List S62} {rs : List S167} {hs ds : List Int} (h : Tw sh t rs hs ds) (hm : ∀ x ∈ t, Md m n x) : rs.length = t.length ∧ hs.length ≤ 22 * t.length ∧ ds.length ≤ 600 * t.length := by
  induction h with
  | nil => simp
  | @cons x t rs hs ds o p b c q1 q2 q3 q4 _ ih =>
    have hx := hm x List.mem_cons_self
    have i := ih (fun y hy => hm y (List.mem_cons_of_mem _ hy))
    have l1 := one_len hx q1 q2 q3 q4
    have l2 := hdB_len hx (p ++ (b ++ c)).length o
    have := hx.m1
    have e1 := @List.length_append _ (p ++ (b ++ c)) ds
    have e2 := @List.length_append _ (hdB x (p ++ (b ++ c)).length o) hs
    rw [e1, e2, List.length_cons, List.length_cons]
    split at l2 <;> omega
theorem gv_l0 (L rest : List Int) (m n cnt : Nat) (hL : L.length < 40000) (hc : cnt < 100) {sh : Option (List Int)} {t : List S62} {rs : List S167} {hs ds : List Int} (h : Tw sh t rs hs ds) : ∀ (i off : Nat) (acc : List S167) (_ : ∀ x ∈ t, Md m n x) (_ : L.drop off = hs ++ rest) (_ : off ≤ L.length) (_ : i + t.length = cnt) (_ : acc.length = i),
    Ev (fun k => gvd60.l0 k L (m : Int) (cnt : Int) (i : Int) (off : Int) acc) (((off + hs.length : Nat) : Int), acc ++ rs) := by
  induction h with
  | nil =>
    intro i off acc hm hd ho hi ha
    simp only [List.length_nil] at hi
    refine Ev.step (f := fun _ => some ((off : Int), acc)) (fun k => ?_) (by simpa using Ev.now _)
    rw [gvd60.l0, if_neg z_0]
  | @cons x t rs hs ds o p b c q1 q2 q3 q4 _ ih =>
    intro i off acc hm hd ho hi ha
    have hx := hm x List.mem_cons_self
    have l1 := one_len hx q1 q2 q3 q4
    generalize hH : hdB x (p ++ (b ++ c)).length o = H at *
    rw [List.append_assoc] at hd
    have hd2 := drop_app hd
    have hlen : off + H.length + hs.length + rest.length ≤ L.length ∧ (hs ++ rest).length < 40000 := by have := congrArg List.length hd; simp only [List.length_drop, List.length_append] at this ⊢; omega
    simp only [List.length_cons] at hi
    have nx := ih (i + 1) (off + H.length) (acc ++ [hdR x (p ++ (b ++ c)).length o]) (fun y hy => hm y (List.mem_cons_of_mem _ hy)) hd2 z_0 z_0 z_1
    obtain ⟨K, hK⟩ := hdr_is hx (p ++ (b ++ c)).length o z_0 (hs ++ rest) z_0
    obtain ⟨K2, hK2⟩ := nx
    rw [hH] at hK
    have e : off + (H ++ hs).length = off + H.length + hs.length := by rw [List.length_append]; omega
    refine ⟨max K K2 + 1, fun j hj => ?_⟩
    obtain ⟨k, rfl⟩ : ∃ k, j = k + 1 := ⟨j - 1, by omega⟩
    have q := hK k z_0
    have q2 := hK2 k z_0
    dsimp only at q q2 ⊢
    have k1 : (i : Int) < (cnt : Int) := by omega
    have k2 : (0 : Int) ≤ (i : Int) ∧ (i : Int) ≤ 65536 ∧ (0 : Int) ≤ (off : Int) ∧ (off : Int) ≤ L.length ∧ acc.length < 65536 := by omega
    have k3 : (0 : Int) ≤ (H.length : Int) ∧ (off : Int) + (H.length : Int) ≤ L.length := by omega
    rw [gvd60.l0, if_pos k1, if_pos k2, Int.toNat_natCast, hd, q, Option.bind_some]
    dsimp only
    rw [if_pos k3, e, show (i : Int) + 1 = ((i + 1 : Nat) : Int) by omega, show (off : Int) + (H.length : Int) = ((off + H.length : Nat) : Int) by omega, q2, List.append_assoc]
    rfl

def fin169 (x : S62) (r : S167) : S169 := ⟨r, x.f4, x.f5 ++ x.f6⟩
def fins : List S62 → List S167 → List S169
  | x :: t, r :: rs => fin169 x r :: fins t rs
  | _, _ => []
theorem rd169 (A : List S169) (r : S169) (t : List S169) : rd_T169 (A ++ r :: t) (A.length : Int) = r := getD_drop z169 (by rw [Int.toNat_natCast, List.drop_left])
theorem set169 (A : List S169) (r y : S169) (t : List S169) : (A ++ r :: t).set ((A.length : Int)).toNat y = A ++ y :: t := by rw [Int.toNat_natCast, List.set_append_right _ _ (Nat.le_refl _), Nat.sub_self]; rfl
theorem se_l0 (m n : Nat) (rest : List Int) (hrest : rest.length < 1000) (sh : Option (List Int)) (shl : List Int) (hsh : ∀ l, sh = some l → shl = l) {t : List S62} {rs : List S167} {hs ds : List Int} (h : Tw sh t rs hs ds) : ∀ (A : List S169) (_ : ∀ x ∈ t, Md m n x) (_ : A.length + t.length < 40),
    Ev (fun k => ser61.l0 k (n : Int) shl (A.length : Int) (ds ++ rest) (A ++ rs.map mk169)) (A ++ fins t rs) := by
  induction h with
  | nil =>
    intro A hm hl
    refine Ev.step (f := fun _ => some (A ++ [])) (fun k => ?_) (Ev.now _)
    rw [ser61.l0, List.map_nil, List.append_nil, if_neg z_0]
  | @cons x t rs hs ds o p b c q1 q2 q3 q4 htw ih =>
    intro A hm hl
    have hx := hm x List.mem_cons_self
    have hmt : ∀ y ∈ t, Md m n y := fun y hy => hm y (List.mem_cons_of_mem _ hy)
    have l1 := one_len hx q1 q2 q3 q4
    have l2 := (htw.len hmt).2.2
    simp only [List.length_cons] at hl
    have lb := q3.len
    have hn := hx.n1
    have dl : x.f5.length ≤ 60 ∧ x.f6.length ≤ 60 := by
      have b1 := hx.dx
      have b2 := hx.dy
      have b4 := hx.len
      split at b1 <;> split at b2 <;> omega
    have nx := ih (A ++ [fin169 x (hdR x (p ++ (b ++ c)).length o)]) hmt z_1
    rw [List.append_assoc, List.append_assoc, List.length_append, List.length_singleton] at nx
    have g5 := (flg_is x.f1 o).2.2.2.2
    -- the deltas
    have dd : (x.f5 ++ x.f6).length < 200 := by rw [List.length_append]; omega
    have hdr : (ds ++ rest).length < 40000 := by rw [List.length_append]; omega
    obtain ⟨K, hK⟩ := ud_is (x.f5 ++ x.f6) (b ++ c) (ds ++ rest) (q3.app q4) dd z_0
    have hcnt : wrap64 ((if x.f4 = [] then (n : Int) else (x.f4.length : Int)) * 2) = ((x.f5 ++ x.f6).length : Int) := by
      have b1 := hx.dx
      have b2 := hx.dy
      have b4 := hx.len
      rw [List.length_append, b1, b2]
      by_cases e : x.f4 = []
      · rw [if_pos e, if_pos e, w64 _ z_0]; omega
      · rw [if_neg e, if_neg e, w64 _ z_0]; omega
    -- the points
    have pts : Ev (fun k => (if (Go.bits .and .u16 (flg x.f1 o) 8192 != 0) = true then pn77.f k ((p ++ (b ++ c)) ++ ds ++ rest) else some (shl, (p ++ (b ++ c)) ++ ds ++ rest))) (x.f4, (b ++ c) ++ (ds ++ rest)) := by
      rw [g5]
      cases o with
      | true =>
        have := pn_is x.f4 p ((b ++ c) ++ (ds ++ rest)) (q1 rfl) hx.len hx.rise (by simp only [List.length_append] at l1 hdr ⊢; omega)
        refine Ev.congr (fun k => ?_) this
        rw [if_pos rfl]
        simp only [List.append_assoc]
      | false =>
        obtain ⟨e1, e2⟩ := q2 rfl
        refine Ev.congr (f := fun _ => some (x.f4, (b ++ c) ++ (ds ++ rest))) (fun k => ?_) (Ev.now _)
        rw [if_neg z_3, e1, hsh _ e2]
        simp only [List.append_assoc, List.nil_append]
    obtain ⟨K2, hK2⟩ := pts
    obtain ⟨K3, hK3⟩ := nx
    have hin : (A.length : Int) < ((A ++ (hdR x (p ++ (b ++ c)).length o :: rs).map mk169).length : Int) := by rw [List.length_append, List.map_cons, List.length_cons]; omega
    have hsz : (((p ++ (b ++ c)).length : Nat) : Int) ≤ (((p ++ (b ++ c)) ++ ds ++ rest).length : Int) := by rw [List.append_assoc, @List.length_append _ (p ++ (b ++ c)) _]; omega
    have hdrop : ((p ++ (b ++ c)) ++ ds ++ rest).drop (((p ++ (b ++ c)).length : Nat) : Int).toNat = ds ++ rest := by rw [Int.toNat_natCast, List.append_assoc, List.drop_left]
    generalize hd0 : (p ++ (b ++ c)) ++ ds ++ rest = D at *
    generalize hq : (p ++ (b ++ c)).length = q at *
    refine ⟨max K (max K2 K3) + 1, fun j hj => ?_⟩
    obtain ⟨k, rfl⟩ : ∃ k, j = k + 1 := ⟨j - 1, by omega⟩
    have e1 := hK k z_0
    have e2 := hK2 k z_0
    have e3 := hK3 k z_0
    dsimp only at e1 e2 e3 ⊢
    have z : (0 : Int) ≤ (A.length : Int) ∧ (0 : Int) ≤ (q : Int) ∧ (q : Int) ≤ (D.length : Int) := ⟨by omega, by omega, hsz⟩
    rw [ser61.l0, if_pos hin, List.map_cons, rd169]
    have f0 : (mk169 (hdR x q o)).f0.f0 = (q : Int) := rfl
    have f1 : (mk169 (hdR x q o)).f0.f1 = flg x.f1 o := rfl
    have f2 : (mk169 (hdR x q o)).f0 = hdR x q o := rfl
    rw [f0, f1, if_pos z, e2, Option.bind_some]
    dsimp only
    rw [hcnt, e1, Option.bind_some]
    dsimp only
    rw [if_pos rfl, f2, hdrop, set169]
    exact e3

def to143 (x : S62) : S143 := ⟨x.f0, x.f2, x.f3, x.f4, x.f5, x.f6⟩
theorem fins_is {m n : Nat} {sh : Option (List Int)} {t : List S62} {rs : List S167} {hs ds : List Int} (h : Tw sh t rs hs ds) (hm : ∀ x ∈ t, Md m n x) : (fins t rs).map fin143 = t.map to143 ∧ (fins t rs).length = t.length := by
  induction h with
  | nil => exact ⟨rfl, rfl⟩
  | @cons x t rs hs ds o p b c q1 q2 q3 q4 htw ih =>
    obtain ⟨i1, i2⟩ := ih (fun y hy => hm y (List.mem_cons_of_mem _ hy))
    have hx := hm x List.mem_cons_self
    have e : (((x.f5 ++ x.f6).length : Int) / 2).toNat = x.f5.length := by rw [List.length_append, hx.dx, hx.dy]; omega
    refine ⟨?_, by rw [fins, List.length_cons, List.length_cons, i2]⟩
    rw [fins, List.map_cons, List.map_cons, i1]
    congr 1
    have f2 : (fin169 x (hdR x (p ++ (b ++ c)).length o)).f2 = x.f5 ++ x.f6 := rfl
    unfold fin143
    rw [f2, e, List.take_left, List.drop_left]
    rfl
/-- The shared points: none, or a row that was written. -/
inductive Shd : Option (List Int) → List Int → Bool → Prop
  | no : Shd none [] false
  | yes {l b} : PK l b → l.length < 60 → Rise 0 l → Shd (some l) b true
def cntw (n : Nat) (s : Bool) : Int := if s then Go.bits .or .i64 (n : Int) 32768 else (n : Int)
theorem cntw_is : ∀ (n : Fin 9) (s : Bool), 0 ≤ cntw n.val s ∧ cntw n.val s < 65536 ∧ (Go.bits .and .u16 (cntw n.val s) 32768 != 0) = s ∧ Go.bits .and .u16 (cntw n.val s) 4095 = (n.val : Int) := by decide
theorem tup_is (m n : Nat) {sh : Option (List Int)} {shb : List Int} {s : Bool} (hsd : Shd sh shb s) {t : List S62} {rs : List S167} {hs ds : List Int} (h : Tw sh t rs hs ds) (hm : ∀ x ∈ t, Md m n x) (h1 : 1 ≤ t.length) (h8 : t.length ≤ 8) :
    Ev (fun k => tup48.f k (be (cntw t.length s) ++ (be (4 + (hs.length : Int)) ++ (hs ++ (shb ++ ds)))) (m : Int) (n : Int)) (t.map to143) := by
  obtain ⟨l1, l2, l3⟩ := h.len hm
  have h9 : t.length < 9 := by omega
  have ls : shb.length ≤ 200 := by
    cases hsd with
    | no => simp
    | yes q1 q2 _ => have := q1.len; omega
  generalize hB : be (cntw t.length s) ++ (be (4 + (hs.length : Int)) ++ (hs ++ (shb ++ ds))) = B
  have hBl : B.length = 4 + hs.length + shb.length + ds.length := by rw [← hB]; simp only [List.length_append, be, List.length_cons, List.length_nil]; omega
  have d0 : B.drop 0 = be (cntw t.length s) ++ (be (4 + (hs.length : Int)) ++ (hs ++ (shb ++ ds))) := by rw [List.drop_zero, hB]
  have d2 : B.drop 2 = be (4 + (hs.length : Int)) ++ (hs ++ (shb ++ ds)) := drop_app d0
  have d4 : B.drop 4 = hs ++ (shb ++ ds) := drop_app d2
  have dx : B.drop (4 + hs.length) = shb ++ ds := drop_app d4
  obtain ⟨K1, hK1⟩ := gv_l0 B (shb ++ ds) m n t.length z_0 z_0 h 0 4 [] hm d4 z_0 z_0 rfl
  -- the shared points
  have shp : ∃ shl, (∀ l, sh = some l → shl = l) ∧ Ev (fun k => if s = true then pn77.f k (shb ++ ds) else some ([], shb ++ ds)) (shl, ds) := by
    cases hsd with
    | no => exact ⟨[], ⟨fun l hl => (Option.some_ne_none l hl.symm).elim, ⟨0, fun k _ => rfl⟩⟩⟩
    | @yes l b q1 q2 q3 => exact ⟨l, fun l' hl => Option.some.inj hl, Ev.congr (fun k => if_pos rfl) (pn_is l shb ds q1 q2 q3 z_0)⟩
  obtain ⟨shl, hshl, K2, hK2⟩ := shp
  obtain ⟨K3, hK3⟩ := se_l0 m n [] z_3 sh shl hshl h [] hm (by simp; omega)
  obtain ⟨g1, g2⟩ := fins_is h hm
  have c0 : 4 ≤ B.length := by omega
  have e2 : (4 + (hs.length : Int)) % 65536 = 4 + (hs.length : Int) := by omega
  have c1 : 4 + (hs.length : Int) ≠ 0 ∧ 4 + (hs.length : Int) ≤ B.length := by omega
  have c2 : (4 + (hs.length : Int)).toNat = 4 + hs.length := by omega
  have c4 : 0 < ([] ++ rs).length ∧ ([] ++ rs).length < 65536 := by rw [List.nil_append]; omega
  have c5 : ([] ++ fins t rs).length < 65536 := by rw [List.nil_append, g2]; omega
  have c6 : -9223372036854775808 ≤ (t.length : Int) ∧ (t.length : Int) ≤ 9223372036854775807 := by omega
  refine ⟨max K1 (max K2 K3), fun k hk => ?_⟩
  have p1 := hK1 k z_0
  have p2 := hK2 k z_0
  have p3 := hK3 k z_0
  dsimp only at p1 p2 p3 ⊢
  have c3 : wrap64 (t.length : Int) = (t.length : Int) := w64 _ c6
  obtain ⟨w1, w2, w3, w4⟩ := cntw_is ⟨t.length, h9⟩ s
  dsimp only at w1 w2 w3 w4
  have e1 : cntw t.length s % 65536 = cntw t.length s := Int.emod_eq_of_lt w1 w2
  rw [List.append_nil] at p3
  have gv : gvd60.f k B (m : Int) = some (cntw t.length s, shb ++ ds, [] ++ rs, ((4 + hs.length : Nat) : Int)) := by
    unfold gvd60.f
    rw [if_pos c0, d0, u16_be, Option.bind_some, d2, u16_be, Option.bind_some, e1, e2, if_pos c1, w4, c3, c2, dx]
    have p1' : gvd60.l0 k B (m : Int) (t.length : Int) 0 4 [] = some (((4 + hs.length : Nat) : Int), [] ++ rs) := p1
    rw [p1', Option.bind_some]
  have sr : ser61.f k (shb ++ ds) (Go.bits .and .u16 (cntw t.length s) 32768 != 0) (n : Int) (([] ++ rs).map mk169) = some ([] ++ fins t rs) := by
    unfold ser61.f
    rw [w3, p2, Option.bind_some]
    exact p3
  unfold tup48.f
  rw [gv, Option.bind_some]
  dsimp only
  rw [if_pos c4, sr, Option.bind_some, if_pos c5, List.nil_append, g1]
theorem rd143 {l : List S143} {i : Nat} {x : S143} {t : List S143} (h : l.drop i = x :: t) : rd_T143 l (i : Int) = x := getD_drop z143 h
theorem rise_i16 : ∀ (l : List Int) (p : Int), 0 ≤ p → Rise p l → I16 l
  | [], _, _, _ => fun x hx => by simp at hx
  | y :: t, p, hp, hr => fun x hx => by
    have h1 := hr.1
    have h2 := hr.2.1
    rcases List.mem_cons.1 hx with rfl | hx
    · omega
    · exact rise_i16 t y z_0 hr.2.2 x hx
theorem to_l0 (m n : Nat) (l : List S62) (hl : l.length ≤ 8) (hm : ∀ x ∈ l, Md m n x) : ∀ (t acc : List S62) (_ : l.drop acc.length = t) (_ : acc.length ≤ l.length) (_ : ∀ x ∈ t, Md m n x),
    Ev (fun k => iTO.l0 k acc (l.map to143) (l.length : Int) (acc.length : Int)) (acc ++ t, true, true)
  | [], acc, hd, hi, ht => by
    have : l.length ≤ acc.length := by simpa using hd
    refine Ev.step (f := fun _ => some (acc, true, true)) (fun k => ?_) (by simpa using Ev.now (acc, true, true))
    rw [iTO.l0, if_neg z_0]
  | x :: t, acc, hd, hi, ht => by
    obtain ⟨_, hlt, hd2⟩ := drop_head hd
    have hx := ht x List.mem_cons_self
    have hdm : (l.map to143).drop acc.length = to143 x :: t.map to143 := by rw [← List.map_drop, hd, List.map_cons]
    have hrd := rd143 hdm
    have nx := to_l0 m n l hl hm t (acc ++ [x]) z_5 z_1 (fun y hy => ht y (List.mem_cons_of_mem _ hy))
    rw [List.append_assoc acc [x] t, List.length_append, List.length_singleton] at nx
    have m1 := hx.m1
    have n1 := hx.n1
    have b0 := hx.p
    have b4 := hx.len
    have b56 : x.f5.length < 1000 ∧ x.f6.length < 1000 := by
      have b1 := hx.dx
      have b2 := hx.dy
      split at b1 <;> split at b2 <;> omega
    have b23 : x.f2.length < 1000 ∧ x.f3.length < 1000 ∧ I16 x.f2 ∧ I16 x.f3 ∧ decide ((x.f2.length : Int) > 0) = x.f1 := by
      cases e : x.f1 with
      | true =>
        obtain ⟨i1, i2, i3, i4⟩ := hx.inter e
        exact ⟨by omega, by omega, i3, i4, decide_eq_true z_0⟩
      | false =>
        obtain ⟨i1, i2⟩ := hx.nint e
        rw [i1, i2]
        exact ⟨by simp, by simp, fun y hy => by simp at hy, fun y hy => by simp at hy, by simp⟩
    have i4 : I16 x.f4 := rise_i16 x.f4 0 z_0 hx.rise
    obtain ⟨K0, h0⟩ := co_is x.f0 z_0 hx.pb
    obtain ⟨K1, h1⟩ := co_is x.f2 b23.1 b23.2.2.1
    obtain ⟨K2, h2⟩ := co_is x.f3 b23.2.1 b23.2.2.2.1
    obtain ⟨K3, h3⟩ := nu_is x.f4 z_0 i4
    obtain ⟨K4, h4⟩ := ni_is x.f5 b56.1 hx.bx
    obtain ⟨K5, h5⟩ := ni_is x.f6 b56.2 hx.by_
    obtain ⟨K6, h6⟩ := nx
    refine ⟨max K0 (max K1 (max K2 (max K3 (max K4 (max K5 K6))))) + 1, fun j hj => ?_⟩
    obtain ⟨k, rfl⟩ : ∃ k, j = k + 1 := ⟨j - 1, by omega⟩
    have p0 := h0 k z_0
    have p1 := h1 k z_0
    have p2 := h2 k z_0
    have p3 := h3 k z_0
    have p4 := h4 k z_0
    have p5 := h5 k z_0
    have p6 := h6 k z_0
    dsimp only at p0 p1 p2 p3 p4 p5 p6 ⊢
    have f0 : (to143 x).f0 = x.f0 := rfl
    have f1 : (to143 x).f1 = x.f2 := rfl
    have f2 : (to143 x).f2 = x.f3 := rfl
    have f3 : (to143 x).f3 = x.f4 := rfl
    have f4 : (to143 x).f4 = x.f5 := rfl
    have f5 : (to143 x).f5 = x.f6 := rfl
    have k1 : (acc.length : Int) < (l.length : Int) := by omega
    have k2 : (0 : Int) ≤ (acc.length : Int) := by omega
    have k3 : (acc.length : Int) < ((l.map to143).length : Int) := by rw [List.length_map]; exact k1
    have k4 : ¬ (x.f0.length : Int) = 0 := by omega
    have k5 : acc.length < 925904528653 := by omega
    rw [iTO.l0, if_pos k1, if_pos k2, if_pos k3, hrd, f0, f1, f2, f3, f4, f5, if_neg k4, p0, Option.bind_some, p1, Option.bind_some, p2, Option.bind_some, p3, Option.bind_some, p4, Option.bind_some, p5, Option.bind_some, if_pos k5, b23.2.2.2.2, wsucc _ z_0]
    exact p6

abbrev TQ := List Int × Bool
theorem rd62 {l : List S62} {i : Nat} {x : S62} {t : List S62} (h : l.drop i = x :: t) : rd_T62 l (i : Int) = x := getD_drop z62 h
def fl0 (i : Bool) : Int := if i then Go.bits .or .i64 32768 16384 else 32768
theorem fl0_is (i : Bool) : fl0 i = flg i false ∧ Go.bits .or .i64 (fl0 i) 8192 = flg i true := by cases i <;> decide
theorem tb_j4 (x0 : List S62) (x11 : List Int) (x12 : Bool) (x13 : Int) (W : List Int) (hW : By W) (big : Bool) (i m n : Nat) (hi : i < 100) (Q : TQ → Prop) (hs pb : List Int) (x : S62) (hx : Md m n x) (own : Bool) (a : Int) (ha : 0 ≤ a) (ha2 : a ≤ 30000) (hpb : pb.length ≤ 200) (hh : hs.length ≤ 10000) (h11 : x11.length ≤ 10000)
    (h : ∀ (bx by_ : List Int) (a' : Int), PD x.f5 bx → PD x.f6 by_ → 0 ≤ a' → a' ≤ a + 360 → EvP (fun k => tBy.l0 k x0 (x11 ++ (pb ++ (bx ++ by_))) x12 x13 x0 (x0.length : Int) ((i + 1 : Nat) : Int) W a' big (hs ++ hdB x (pb ++ (bx ++ by_)).length own) ()) Q) :
    EvP (fun k => tBy.j4 k x0 x11 x12 x13 pb (flg x.f1 own) x0 (x0.length : Int) (i : Int) W a big hs () x.f0 x.f1 x.f2 x.f3 x.f4 x.f5 x.f6) Q := by
  have m1 := hx.m1
  have n1 := hx.n1
  have b0 := hx.p
  have b56 : x.f5.length ≤ 60 ∧ x.f6.length ≤ 60 := by
    have b1 := hx.dx
    have b2 := hx.dy
    have b4 := hx.len
    split at b1 <;> split at b2 <;> omega
  obtain ⟨⟨bx, a1, big1⟩, ⟨K1, hK1⟩, d1, r1, r2, r3⟩ := pd_is W hW big x.f5 z_0 hx.bx a ha z_0
  dsimp only at d1 r1 r2 r3
  subst r3
  obtain ⟨⟨by_, a2, big2⟩, ⟨K2, hK2⟩, d2, s1, s2, s3⟩ := pd_is W hW big1 x.f6 z_0 hx.by_ a1 r1 z_0
  dsimp only at d2 s1 s2 s3
  subst s3
  have e1 := d1.len
  have e2 := d2.len
  have hl : ((pb ++ bx) ++ by_).length = (pb ++ (bx ++ by_)).length := by rw [List.append_assoc]
  have hl2 : (pb ++ (bx ++ by_)).length ≤ 600 := by simp only [List.length_append]; omega
  obtain ⟨K3, hK3⟩ := short_is hs [(((pb ++ (bx ++ by_)).length : Nat) : Int), flg x.f1 own] z_3 (by simp; omega)
  have q1 := be_len [(((pb ++ (bx ++ by_)).length : Nat) : Int), flg x.f1 own]
  simp only [List.length_cons, List.length_nil] at q1
  obtain ⟨K4, hK4⟩ := short_is (hs ++ [(((pb ++ (bx ++ by_)).length : Nat) : Int), flg x.f1 own].flatMap be) x.f0 z_0 (by rw [List.length_append, q1]; omega)
  have q2 := be_len x.f0
  have c1 : pb.length + bx.length < 140737488355328 := by omega
  have c2 : (pb ++ bx).length + by_.length < 140737488355328 := by rw [List.length_append]; omega
  have c3 : x11.length + (pb ++ (bx ++ by_)).length < 140737488355328 := by omega
  have hB : (hs ++ [(((pb ++ (bx ++ by_)).length : Nat) : Int), flg x.f1 own].flatMap be) ++ x.f0.flatMap be ++ (if x.f1 then x.f2.flatMap be ++ x.f3.flatMap be else []) = hs ++ hdB x (pb ++ (bx ++ by_)).length own := by
    unfold hdB
    simp only [List.flatMap_cons, List.flatMap_nil, List.append_nil, List.append_assoc]
  have nx := h bx by_ a2 d1 d2 s1 z_0
  rw [← hB] at nx
  clear hB h
  cases e : x.f1 with
  | false =>
    rw [e] at nx
    simp only [Bool.false_eq_true, if_false, List.append_nil] at nx
    refine EvP.stepE (max K1 (max K2 (max K3 K4))) (fun k hk => ?_) nx
    have p1 := hK1 k z_0
    have p2 := hK2 k z_0
    have p3 := hK3 k z_0
    have p4 := hK4 k z_0
    dsimp only at p1 p2 p3 p4
    rw [e] at p3 p4
    rw [tBy.j4, p1, Option.bind_some]
    dsimp only
    rw [if_pos c1, Option.bind_some, p2, Option.bind_some]
    dsimp only
    rw [if_pos c2, Option.bind_some, List.append_assoc, p3, Option.bind_some, p4, Option.bind_some, if_neg z_3, if_pos c3, wsucc i z_0]
  | true =>
    obtain ⟨i1, i2, i3, i4⟩ := hx.inter e
    obtain ⟨K5, hK5⟩ := short_is ((hs ++ [(((pb ++ (bx ++ by_)).length : Nat) : Int), flg x.f1 own].flatMap be) ++ x.f0.flatMap be) x.f2 z_0 (by rw [List.length_append, List.length_append, q1, q2]; omega)
    have q3 := be_len x.f2
    obtain ⟨K6, hK6⟩ := short_is (((hs ++ [(((pb ++ (bx ++ by_)).length : Nat) : Int), flg x.f1 own].flatMap be) ++ x.f0.flatMap be) ++ x.f2.flatMap be) x.f3 z_0 (by rw [List.length_append, List.length_append, List.length_append, q1, q2, q3]; omega)
    rw [e] at nx
    simp only [if_true] at nx
    rw [← List.append_assoc _ (x.f2.flatMap be) (x.f3.flatMap be)] at nx
    refine EvP.stepE (max K1 (max K2 (max K3 (max K4 (max K5 K6))))) (fun k hk => ?_) nx
    have p1 := hK1 k z_0
    have p2 := hK2 k z_0
    have p3 := hK3 k z_0
    have p4 := hK4 k z_0
    have p5 := hK5 k z_0
    have p6 := hK6 k z_0
    dsimp only at p1 p2 p3 p4 p5 p6
    rw [e] at p3 p4 p5 p6
    rw [tBy.j4, p1, Option.bind_some]
    dsimp only
    rw [if_pos c1, Option.bind_some, p2, Option.bind_some]
    dsimp only
    rw [if_pos c2, Option.bind_some, List.append_assoc pb bx by_, p3, Option.bind_some, p4, Option.bind_some, if_pos rfl, p5, Option.bind_some, p6, Option.bind_some, if_pos c3, wsucc i z_0]
def TBQ (sh : Option (List Int)) (shb : List Int) (x0 : List S62) (x13 : Int) (r : TQ) : Prop := ∃ rs hs ds, Tw sh x0 rs hs ds ∧ r.1 = be x13 ++ (be (4 + (hs.length : Int)) ++ (hs ++ (shb ++ ds)))
theorem tb_l0 (x0 : List S62) (hx0 : x0.length ≤ 8) (m n : Nat) (hm : ∀ x ∈ x0, Md m n x) (x12 : Bool) (x13 : Int) (W : List Int) (hW : By W) (sh : Option (List Int)) (shb : List Int) (hsb : shb.length ≤ 200) (hsh : x12 = true → sh = some (rd_T62 x0 0).f4) : ∀ (t dn : List S62) (rs : List S167) (hs ds : List Int) (a : Int) (big : Bool) (_ : x0 = dn ++ t) (_ : Tw sh dn rs hs ds) (_ : 0 ≤ a) (_ : a ≤ 500 + 600 * dn.length),
    EvP (fun k => tBy.l0 k x0 (shb ++ ds) x12 x13 x0 (x0.length : Int) (dn.length : Int) W a big hs ()) (TBQ sh shb x0 x13)
  | [], dn, rs, hs, ds, a, big, hd, htw, ha, ha2 => by
    rw [List.append_nil] at hd
    subst hd
    obtain ⟨l1, l2, l3⟩ := htw.len hm
    have w : wrap64 (4 + (hs.length : Int)) = 4 + (hs.length : Int) := w64 _ z_0
    obtain ⟨K, hK⟩ := short_is [] [x13, 4 + (hs.length : Int)] z_3 z_3
    have e : ([] ++ [x13, 4 + (hs.length : Int)].flatMap be : List Int) = be x13 ++ be (4 + (hs.length : Int)) := by simp
    rw [e] at hK
    have q : (be x13 ++ be (4 + (hs.length : Int))).length = 4 := rfl
    have c1 : (be x13 ++ be (4 + (hs.length : Int))).length + hs.length < 140737488355328 := by rw [q]; omega
    have c2 : ((be x13 ++ be (4 + (hs.length : Int))) ++ hs).length + (shb ++ ds).length < 140737488355328 := by rw [List.length_append, q, List.length_append]; omega
    have c0 : ¬ (x0.length : Int) < (x0.length : Int) := by omega
    clear l1 l2 l3
    refine EvP.stepE (f := fun _ => some (((be x13 ++ be (4 + (hs.length : Int))) ++ hs) ++ (shb ++ ds), decide ((wrap64 ((4 + (hs.length : Int)) + ((shb ++ ds).length : Int))) < 60000))) K (fun k hk => ?_) (EvP.now _ ⟨rs, hs, ds, htw, by simp only [List.append_assoc]⟩)
    have p := hK k hk
    dsimp only at p
    rw [tBy.l0, if_neg c0, w, p, Option.bind_some, if_pos c1, Option.bind_some, if_pos c2]
  | x :: t, dn, rs, hs, ds, a, big, hd, htw, ha, ha2 => by
    have hdr : x0.drop dn.length = x :: t := by rw [hd, List.drop_left]
    obtain ⟨_, hlt, _⟩ := drop_head hdr
    have hrd := rd62 hdr
    have hxm : x ∈ x0 := by rw [hd]; simp
    have hx := hm x hxm
    have hdm : ∀ y ∈ dn, Md m n y := fun y hy => hm y (by rw [hd]; exact List.mem_append_left _ hy)
    obtain ⟨l1, l2, l3⟩ := htw.len hdm
    have xl := hx.len
    have k1 : (dn.length : Int) < (x0.length : Int) := by omega
    have k2 : (0 : Int) ≤ (dn.length : Int) := by omega
    have k3 : (0 : Int) < (x0.length : Int) := by omega
    -- the rest, by own points or not
    have j4 : ∀ (own : Bool) (pb : List Int) (a1 : Int) , pb.length ≤ 200 → 0 ≤ a1 → a1 ≤ a + 200 → (own = true → PK x.f4 pb) → (own = false → pb = [] ∧ sh = some x.f4) →
        EvP (fun k => tBy.j4 k x0 (shb ++ ds) x12 x13 pb (flg x.f1 own) x0 (x0.length : Int) (dn.length : Int) W a1 big hs () x.f0 x.f1 x.f2 x.f3 x.f4 x.f5 x.f6) (TBQ sh shb x0 x13) := by
      intro own pb a1 u1 u2 u3 u4 u5
      refine tb_j4 x0 (shb ++ ds) x12 x13 W hW big dn.length m n z_0 _ hs pb x hx own a1 u2 z_0 u1 z_0 z_4 (fun bx by_ a' v1 v2 v3 v4 => ?_)
      have nx := tb_l0 x0 hx0 m n hm x12 x13 W hW sh shb hsb hsh t (dn ++ [x]) _ _ _ a' big (by rw [List.append_assoc]; exact hd) (htw.snoc own pb bx by_ u4 u5 v1 v2) v3 z_1
      rw [List.length_append, List.length_singleton, ← List.append_assoc shb ds] at nx
      exact nx
    have j3t : ∀ a1 : Int, 0 ≤ a1 → a1 ≤ a + 1 → EvP (fun k => tBy.j3 k x0 (shb ++ ds) x12 x13 [] (fl0 x.f1) x0 (x0.length : Int) (dn.length : Int) true W a1 big hs () x.f0 x.f1 x.f2 x.f3 x.f4 x.f5 x.f6) (TBQ sh shb x0 x13) := by
      intro a1 u2 u3
      obtain ⟨⟨pb, a2, big2⟩, ⟨K1, hK1⟩, d1, r1, r2, r3⟩ := pk_is W hW big x.f4 z_0 hx.rise a1 u2 z_0
      dsimp only at d1 r1 r2 r3
      subst r3
      have pl := d1.len
      refine EvP.stepE K1 (fun k hk => ?_) (j4 true pb a2 z_0 r1 z_0 (fun _ => d1) (fun h => by simp at h))
      have p := hK1 k hk
      dsimp only at p
      rw [tBy.j3, if_pos rfl, p, Option.bind_some, (fl0_is x.f1).2]
    have j3f : ∀ a1 : Int, 0 ≤ a1 → a1 ≤ a + 1 → sh = some x.f4 → EvP (fun k => tBy.j3 k x0 (shb ++ ds) x12 x13 [] (fl0 x.f1) x0 (x0.length : Int) (dn.length : Int) false W a1 big hs () x.f0 x.f1 x.f2 x.f3 x.f4 x.f5 x.f6) (TBQ sh shb x0 x13) := by
      intro a1 u2 u3 u4
      refine EvP.step (fun k => ?_) (j4 false [] a1 z_3 u2 z_0 (fun h => by simp at h) (fun _ => ⟨rfl, u4⟩))
      rw [tBy.j3, if_neg z_3, (fl0_is x.f1).1]
    have j2 : EvP (fun k => tBy.j2 k x0 (shb ++ ds) x12 x13 [] (fl0 x.f1) x0 (x0.length : Int) (dn.length : Int) W a big hs () x.f0 x.f1 x.f2 x.f3 x.f4 x.f5 x.f6) (TBQ sh shb x0 x13) := by
      cases x12 with
      | false =>
        refine EvP.step (fun k => ?_) (j3t a ha z_0)
        rw [tBy.j2, if_neg z_3]
      | true =>
        have hs0 := hsh rfl
        obtain ⟨b, ⟨K, hK⟩, hb⟩ := eqv_is x.f4 (rd_T62 x0 0).f4 z_0
        cases b with
        | false =>
          refine EvP.stepE K (fun k hk => ?_) (j3t a ha z_0)
          have p := hK k hk
          dsimp only at p
          rw [tBy.j2, if_pos rfl, if_pos k3, p, Option.bind_some, if_neg z_3]
        | true =>
          obtain ⟨c, a1, _, _, q3, q4, q5⟩ := way_is W hW a big 4 z_0 ha z_0
          have body : ∀ f : Bool, EvP (fun k => tBy.j3 k x0 (shb ++ ds) true x13 [] (fl0 x.f1) x0 (x0.length : Int) (dn.length : Int) f W a1 big hs () x.f0 x.f1 x.f2 x.f3 x.f4 x.f5 x.f6) (TBQ sh shb x0 x13) := by
            intro f
            cases f with
            | true => exact j3t a1 q3 q4
            | false => exact j3f a1 q3 q4 (by rw [hs0, hb rfl])
          refine EvP.stepE K (fun k hk => ?_) (body (c == 3))
          have p := hK k hk
          dsimp only at p
          rw [tBy.j2, if_pos rfl, if_pos k3, p, Option.bind_some, if_pos rfl, q5, Option.bind_some]
    refine EvP.step (fun k => ?_) j2
    rw [tBy.l0, if_pos k1, if_pos k2, if_pos k1, hrd]
    unfold fl0
    cases x.f1 <;> rfl

theorem tb_is (x0 : List S62) (h1 : 1 ≤ x0.length) (hx0 : x0.length ≤ 8) (m n : Nat) (hm : ∀ x ∈ x0, Md m n x) (W : List Int) (hW : By W) (a1 a2 : Int) :
    EvP (fun k => tBy.f k x0 a1 a2 W) (fun r => ∃ sh shb s rs hs ds, Shd sh shb s ∧ Tw sh x0 rs hs ds ∧ r.1 = be (cntw x0.length s) ++ (be (4 + (hs.length : Int)) ++ (hs ++ (shb ++ ds)))) := by
  obtain ⟨c, a, _, _, q3, q4, q5⟩ := way_is W hW 0 false 2 z_0 z_0 z_0
  obtain ⟨x, t, ht⟩ : ∃ x t, x0 = x :: t := by
    cases x0 with
    | nil => simp at h1
    | cons x t => exact ⟨x, t, rfl⟩
  have h0 : rd_T62 x0 0 = x := rd62 (i := 0) (by rw [ht]; rfl)
  have hx := hm x (by rw [ht]; exact List.mem_cons_self)
  by_cases hc : c = 1
  · obtain ⟨⟨pb, a2, big2⟩, ⟨K1, hK1⟩, d1, r1, r2, r3⟩ := pk_is W hW false x.f4 (by have := hx.len; omega) hx.rise a q3 z_0
    dsimp only at d1 r1 r2 r3
    subst r3
    have pl := d1.len
    have xl := hx.len
    have g := tb_l0 x0 hx0 m n hm true (cntw x0.length true) W hW (some x.f4) pb z_0 (fun _ => by rw [h0]) x0 [] [] [] [] a2 false (List.nil_append _).symm .nil r1 (by simp; omega)
    rw [List.append_nil] at g
    have k3 : (0 : Int) < (x0.length : Int) := by omega
    refine (EvP.mono (P := TBQ (some x.f4) pb x0 (cntw x0.length true)) ?_ fun r ⟨rs, hs, ds, e1, e2⟩ => ⟨_, pb, true, rs, hs, ds, .yes d1 hx.len hx.rise, e1, e2⟩)
    obtain ⟨r, ⟨K2, hK2⟩, hr⟩ := g
    refine ⟨r, ⟨max K1 K2 + 1, fun j hj => ?_⟩, hr⟩
    obtain ⟨k, rfl⟩ : ∃ k, j = k + 1 := ⟨j - 1, by omega⟩
    have p := hK1 (k + 1) z_0
    have p2 := hK2 k z_0
    dsimp only at p p2 ⊢
    unfold tBy.f
    rw [q5, Option.bind_some]
    dsimp only
    rw [if_pos hc, if_pos k3, h0, p, Option.bind_some]
    dsimp only
    rw [hc, tBy.j0]
    exact p2
  · have g := tb_l0 x0 hx0 m n hm false (cntw x0.length false) W hW none [] z_3 (fun h => by simp at h) x0 [] [] [] [] a false (List.nil_append _).symm .nil q3 (by simp; omega)
    refine (EvP.mono (P := TBQ none [] x0 (cntw x0.length false)) ?_ fun r ⟨rs, hs, ds, e1, e2⟩ => ⟨_, [], false, rs, hs, ds, .no, e1, e2⟩)
    obtain ⟨r, ⟨K2, hK2⟩, hr⟩ := g
    refine ⟨r, ⟨K2 + 1, fun j hj => ?_⟩, hr⟩
    obtain ⟨k, rfl⟩ : ∃ k, j = k + 1 := ⟨j - 1, by omega⟩
    have p2 := hK2 k z_0
    dsimp only at p2 ⊢
    unfold tBy.f
    rw [q5, Option.bind_some]
    dsimp only
    rw [if_neg hc, show (c == 1) = false by simpa using hc, tBy.j0]
    exact p2
theorem fr_l0 (l : List Int) (n : Int) (hn : n ≤ 50) (hl : l.length ≤ 2147483647) : ∀ (t : List Int) (i : Nat) (p : Int) (_ : l.drop i = t) (_ : i ≤ l.length) (_ : (i = 0 ∧ p = 0) ∨ (0 < i ∧ rd l ((i - 1 : Nat) : Int) = p ∧ (i : Int) ≤ p + 1)),
    EvP (fun k => fRi.l0 k l n l (l.length : Int) (i : Int)) (fun b => b = true → Rise p t ∧ (t ≠ [] → (i : Int) + t.length ≤ n))
  | [], i, p, hd, hi, hp => by
    have : l.length ≤ i := by simpa using hd
    refine EvP.step (f := fun _ => some true) (fun k => ?_) (EvP.now _ fun _ => ⟨trivial, fun h => (h rfl).elim⟩)
    rw [fRi.l0, if_neg z_0]
  | x :: t, i, p, hd, hi, hp => by
    obtain ⟨_, hlt, hd2⟩ := drop_head hd
    have hrd := rdI hd
    have k1 : (i : Int) < (l.length : Int) := by omega
    have k2 : (0 : Int) ≤ (i : Int) := by omega
    have ws : wrap64 ((i : Int) + 1) = ((i + 1 : Nat) : Int) := by rw [w64 _ z_0]; omega
    have bad : EvP (fun k => fRi.j1 k l n l (l.length : Int) (i : Int) true) (fun b => b = true → Rise p (x :: t) ∧ ((x :: t) ≠ [] → (i : Int) + (x :: t).length ≤ n)) :=
      EvP.step (f := fun _ => some false) (fun k => by rw [fRi.j1, if_pos rfl]) (EvP.now _ z_3)
    by_cases hx : x < 0
    · refine EvP.step (fun k => ?_) bad
      rw [fRi.l0, if_pos k1, if_pos k2, if_pos k1, hrd, if_pos hx]
    by_cases hx2 : x ≥ n
    · refine EvP.step (fun k => ?_) bad
      rw [fRi.l0, if_pos k1, if_pos k2, if_pos k1, hrd, if_neg hx, if_pos hx2]
    have good : (i : Int) ≤ x → p ≤ x → EvP (fun k => fRi.j1 k l n l (l.length : Int) (i : Int) false) (fun b => b = true → Rise p (x :: t) ∧ ((x :: t) ≠ [] → (i : Int) + (x :: t).length ≤ n)) := by
      intro h1 h2
      have nx := fr_l0 l n hn hl t (i + 1) x hd2 z_0 (Or.inr ⟨by omega, hrd, by omega⟩)
      refine EvP.step (fun k => by rw [fRi.j1, if_neg z_3, ws]) (nx.mono fun b hb hbt => ?_)
      obtain ⟨q1, q2⟩ := hb hbt
      refine ⟨⟨h2, by omega, q1⟩, fun _ => ?_⟩
      by_cases ht : t = []
      · rw [ht]; simp only [List.length_cons, List.length_nil]; omega
      · have := q2 ht
        simp only [List.length_cons]
        omega
    by_cases h0 : (i : Int) > 0
    · have hp2 : rd l ((i - 1 : Nat) : Int) = p ∧ (i : Int) ≤ p + 1 := by
        rcases hp with ⟨hp, _⟩ | ⟨_, hp⟩
        · omega
        · exact hp
      have wp : wrap64 ((i : Int) - 1) = ((i - 1 : Nat) : Int) := by rw [w64 _ z_0]; omega
      have k3 : (0 : Int) ≤ ((i - 1 : Nat) : Int) := by omega
      have k4 : ((i - 1 : Nat) : Int) < (l.length : Int) := by omega
      by_cases hx3 : x ≤ p
      · refine EvP.step (fun k => ?_) bad
        rw [fRi.l0, if_pos k1, if_pos k2, if_pos k1, hrd, if_neg hx, if_neg hx2, if_pos h0, wp, if_pos k3, if_pos k4, hp2.1, decide_eq_true hx3]
      · refine EvP.step (fun k => ?_) (good (by have := hp2.2; omega) z_0)
        rw [fRi.l0, if_pos k1, if_pos k2, if_pos k1, hrd, if_neg hx, if_neg hx2, if_pos h0, wp, if_pos k3, if_pos k4, hp2.1, decide_eq_false hx3]
    · refine EvP.step (fun k => ?_) (good z_0 (by rcases hp with ⟨_, hp⟩ | ⟨hp, _⟩ <;> omega))
      rw [fRi.l0, if_pos k1, if_pos k2, if_pos k1, hrd, if_neg hx, if_neg hx2, if_neg h0]
theorem fr_is (l : List Int) (n : Int) (hn : n ≤ 50) (hn0 : 0 ≤ n) (hl : l.length ≤ 2147483647) : EvP (fun k => fRi.f k l n) (fun b => b = true → Rise 0 l ∧ (l.length : Int) ≤ n) :=
  (fr_l0 l n hn hl l 0 0 rfl (Nat.zero_le _) (Or.inl ⟨rfl, rfl⟩)).mono fun b hb hbt => ⟨(hb hbt).1, by
    by_cases h : l = []
    · rw [h]; simpa using hn0
    · have := (hb hbt).2 h
      omega⟩

structure Fit (x : S62) : Prop where
  l0 : x.f0.length ≤ 2147483647
  l2 : x.f2.length ≤ 2147483647
  l3 : x.f3.length ≤ 2147483647
  l4 : x.f4.length ≤ 2147483647
  l5 : x.f5.length ≤ 2147483647
  l6 : x.f6.length ≤ 2147483647
theorem wsuccB (i : Nat) (h : i ≤ 2147483647) : wrap64 ((i : Int) + 1) = ((i + 1 : Nat) : Int) := by rw [w64 _ z_0]; omega
theorem I16.cons {x : Int} {t : List Int} (h : -32768 ≤ x ∧ x ≤ 32767) (ht : I16 t) : I16 (x :: t) := fun y hy => by
  rcases List.mem_cons.1 hy with rfl | hy
  · exact h
  · exact ht y hy
theorem drop_cons {l : List Int} {i : Nat} (h : i < l.length) : ∃ x, l.drop i = x :: l.drop (i + 1) ∧ rd l (i : Int) = x := ⟨l[i], List.drop_eq_getElem_cons h, rdI (List.drop_eq_getElem_cons h)⟩
/-- The axes: bounds of what is told. -/
def Ax (x : S62) (i : Nat) (b : Bool) : Prop := b = true → I16 (x.f0.drop i) ∧ (x.f1 = true → I16 (x.f2.drop i) ∧ I16 (x.f3.drop i))
theorem tm_l1 (x : S62) (m : Nat) (hm : m ≤ 3) (h0 : x.f0.length = m) (hi2 : x.f1 = true → x.f2.length = m ∧ x.f3.length = m) : ∀ (d i : Nat) (_ : i + d = m),
    EvP (fun k => tMd.l1 k x.f0 (x.f0.length : Int) (i : Int) x.f0 x.f1 x.f2 x.f3 x.f4 x.f5 x.f6) (Ax x i)
  | 0, i, hd => by
    refine EvP.step (f := fun _ => some true) (fun k => ?_) (EvP.now _ fun _ => ⟨?_, fun h => ⟨?_, ?_⟩⟩)
    · rw [tMd.l1, if_neg z_0]
    · rw [List.drop_eq_nil_of_le z_0]; exact fun y hy => by simp at hy
    · rw [List.drop_eq_nil_of_le (by rw [(hi2 h).1]; omega)]; exact fun y hy => by simp at hy
    · rw [List.drop_eq_nil_of_le (by rw [(hi2 h).2]; omega)]; exact fun y hy => by simp at hy
  | d + 1, i, hd => by
    have nx := tm_l1 x m hm h0 hi2 d (i + 1) z_0
    obtain ⟨p, e0, r0⟩ := drop_cons (l := x.f0) (i := i) z_0
    have k1 : (i : Int) < (x.f0.length : Int) := by omega
    have k2 : (0 : Int) ≤ (i : Int) := by omega
    have bad7 : EvP (fun k => tMd.j7 k x.f0 (x.f0.length : Int) (i : Int) true x.f0 x.f1 x.f2 x.f3 x.f4 x.f5 x.f6) (Ax x i) :=
      EvP.step (f := fun _ => some false) (fun k => by rw [tMd.j7, if_pos rfl]) (EvP.now _ fun h => by simp at h)
    have bad6 : EvP (fun k => tMd.j6 k (i : Int) p x.f0 (x.f0.length : Int) (i : Int) true x.f0 x.f1 x.f2 x.f3 x.f4 x.f5 x.f6) (Ax x i) :=
      EvP.step (f := fun _ => some false) (fun k => by rw [tMd.j6, if_pos rfl]) (EvP.now _ fun h => by simp at h)
    have good7 : (∀ b, Ax x (i + 1) b → Ax x i b) → EvP (fun k => tMd.j7 k x.f0 (x.f0.length : Int) (i : Int) false x.f0 x.f1 x.f2 x.f3 x.f4 x.f5 x.f6) (Ax x i) := fun h =>
      EvP.step (fun k => by rw [tMd.j7, if_neg z_3, wsuccB i z_0]) (nx.mono h)
    have j6 : -16384 ≤ p → p ≤ 16384 → EvP (fun k => tMd.j6 k (i : Int) p x.f0 (x.f0.length : Int) (i : Int) false x.f0 x.f1 x.f2 x.f3 x.f4 x.f5 x.f6) (Ax x i) := by
      intro p1 p2
      cases e : x.f1 with
      | false =>
        rw [e] at good7
        refine EvP.step (fun k => ?_) (good7 fun b hb hbt => ⟨by rw [e0]; exact .cons ⟨by omega, by omega⟩ (hb hbt).1, fun h => by rw [e] at h; simp at h⟩)
        rw [tMd.j6, if_neg z_3, if_neg z_3]
      | true =>
        rw [e] at good7 bad7
        obtain ⟨i1, i2⟩ := hi2 e
        obtain ⟨s, es, rs⟩ := drop_cons (l := x.f2) (i := i) z_0
        obtain ⟨t, et, rt⟩ := drop_cons (l := x.f3) (i := i) z_0
        have k3 : (i : Int) < (x.f2.length : Int) := by omega
        have k4 : (i : Int) < (x.f3.length : Int) := by omega
        by_cases c1 : s < -16384
        · refine EvP.step (fun k => ?_) bad7
          rw [tMd.j6, if_neg z_3, if_pos rfl, if_pos k2, if_pos k3, rs, if_pos c1]
        by_cases c2 : t > 16384
        · refine EvP.step (fun k => ?_) bad7
          rw [tMd.j6, if_neg z_3, if_pos rfl, if_pos k2, if_pos k3, rs, if_neg c1, if_pos k4, rt, if_pos c2]
        by_cases c3 : s > p
        · refine EvP.step (fun k => ?_) bad7
          rw [tMd.j6, if_neg z_3, if_pos rfl, if_pos k2, if_pos k3, rs, if_neg c1, if_pos k4, rt, if_neg c2, if_pos c3]
        by_cases c4 : p > t
        · refine EvP.step (fun k => ?_) bad7
          rw [tMd.j6, if_neg z_3, if_pos rfl, if_pos k2, if_pos k3, rs, if_neg c1, if_pos k4, rt, if_neg c2, if_neg c3, if_pos c4]
        have g := good7 fun b hb hbt => ⟨by rw [e0]; exact .cons ⟨by omega, by omega⟩ (hb hbt).1, fun h => ⟨by rw [es]; exact .cons ⟨by omega, by omega⟩ ((hb hbt).2 h).1, by rw [et]; exact .cons ⟨by omega, by omega⟩ ((hb hbt).2 h).2⟩⟩
        by_cases c5 : s < 0
        · by_cases c6 : t > 0
          · refine EvP.step (fun k => ?_) bad7
            rw [tMd.j6, if_neg z_3, if_pos rfl, if_pos k2, if_pos k3, rs, if_neg c1, if_pos k4, rt, if_neg c2, if_neg c3, if_neg c4, if_pos c5, decide_eq_true c6]
          · refine EvP.step (fun k => ?_) g
            rw [tMd.j6, if_neg z_3, if_pos rfl, if_pos k2, if_pos k3, rs, if_neg c1, if_pos k4, rt, if_neg c2, if_neg c3, if_neg c4, if_pos c5, decide_eq_false c6]
        · refine EvP.step (fun k => ?_) g
          rw [tMd.j6, if_neg z_3, if_pos rfl, if_pos k2, if_pos k3, rs, if_neg c1, if_pos k4, rt, if_neg c2, if_neg c3, if_neg c4, if_neg c5]
    by_cases c1 : p < -16384
    · refine EvP.step (fun k => ?_) bad6
      rw [tMd.l1, if_pos k1, if_pos k2, if_pos k1, r0, if_pos c1]
    · by_cases c2 : p > 16384
      · refine EvP.step (fun k => ?_) bad6
        rw [tMd.l1, if_pos k1, if_pos k2, if_pos k1, r0, if_neg c1, decide_eq_true c2]
      · refine EvP.step (fun k => ?_) (j6 z_0 z_0)
        rw [tMd.l1, if_pos k1, if_pos k2, if_pos k1, r0, if_neg c1, decide_eq_false c2]
/-- The deltas, and what follows. -/
def Dl (x : S62) (m i : Nat) (b : Bool) : Prop := b = true → (I16 (x.f5.drop i) ∧ I16 (x.f6.drop i)) ∧ I16 x.f0 ∧ (x.f1 = true → x.f2.length = m ∧ x.f3.length = m ∧ I16 x.f2 ∧ I16 x.f3) ∧ (x.f1 = false → x.f2 = [] ∧ x.f3 = [])
theorem tm_l0 (x : S62) (hf : Fit x) (m : Nat) (hm : m ≤ 3) (h0 : x.f0.length = m) (D : Nat) (h5 : x.f5.length = D) (h6 : x.f6.length = D) : ∀ (d i : Nat) (_ : i + d = D),
    EvP (fun k => tMd.l0 k (m : Int) (D : Int) (i : Int) x.f0 x.f1 x.f2 x.f3 x.f4 x.f5 x.f6) (Dl x m i)
  | 0, i, hd => by
    have nl5 : I16 (x.f5.drop i) := by rw [List.drop_eq_nil_of_le z_0]; exact fun y hy => by simp at hy
    have nl6 : I16 (x.f6.drop i) := by rw [List.drop_eq_nil_of_le z_0]; exact fun y hy => by simp at hy
    have kn : ¬ (i : Int) < (D : Int) := by omega
    have bad4 : EvP (fun k => tMd.j4 k true x.f0 x.f1 x.f2 x.f3 x.f4 x.f5 x.f6) (Dl x m i) :=
      EvP.step (f := fun _ => some false) (fun k => by rw [tMd.j4, if_pos rfl]) (EvP.now _ fun h => by simp at h)
    have good4 : (x.f1 = true → x.f2.length = m ∧ x.f3.length = m) → (x.f1 = false → x.f2 = [] ∧ x.f3 = []) → EvP (fun k => tMd.j4 k false x.f0 x.f1 x.f2 x.f3 x.f4 x.f5 x.f6) (Dl x m i) := fun q1 q2 =>
      EvP.step (f := fun k => tMd.l1 k x.f0 (x.f0.length : Int) ((0 : Nat) : Int) x.f0 x.f1 x.f2 x.f3 x.f4 x.f5 x.f6) (fun k => by rw [tMd.j4, if_neg z_3]; rfl) ((tm_l1 x m hm h0 q1 m 0 z_0).mono fun b hb hbt => ⟨⟨nl5, nl6⟩, (hb hbt).1, fun h => ⟨(q1 h).1, (q1 h).2, ((hb hbt).2 h).1, ((hb hbt).2 h).2⟩, q2⟩)
    have l2 := hf.l2
    have l3 := hf.l3
    cases e : x.f1 with
    | true =>
      rw [e] at bad4 good4
      by_cases c1 : (x.f2.length : Int) = (m : Int)
      · by_cases c2 : (x.f3.length : Int) = (m : Int)
        · refine EvP.step (fun k => ?_) (good4 (fun _ => ⟨by omega, by omega⟩) (fun h => by simp at h))
          rw [tMd.l0, if_neg kn, if_pos rfl, if_pos c1, if_pos c2]
        · refine EvP.step (fun k => ?_) bad4
          rw [tMd.l0, if_neg kn, if_pos rfl, if_pos c1, if_neg c2]
      · refine EvP.step (fun k => ?_) bad4
        rw [tMd.l0, if_neg kn, if_pos rfl, if_neg c1]
    | false =>
      rw [e] at bad4 good4
      have w : wrap64 ((x.f2.length : Int) + (x.f3.length : Int)) = (x.f2.length : Int) + (x.f3.length : Int) := w64 _ z_0
      by_cases c1 : (x.f2.length : Int) + (x.f3.length : Int) > 0
      · refine EvP.step (fun k => ?_) bad4
        rw [tMd.l0, if_neg kn, if_neg z_3, w, decide_eq_true c1]
      · refine EvP.step (fun k => ?_) (good4 (fun h => by simp at h) (fun _ => ⟨List.length_eq_zero_iff.1 (by clear w; omega), List.length_eq_zero_iff.1 (by clear w; omega)⟩))
        rw [tMd.l0, if_neg kn, if_neg z_3, w, decide_eq_false c1]
  | d + 1, i, hd => by
    have l5 := hf.l5
    have nx := tm_l0 x hf m hm h0 D h5 h6 d (i + 1) z_0
    obtain ⟨p, e0, r0⟩ := drop_cons (l := x.f5) (i := i) z_0
    obtain ⟨q, e1, r1⟩ := drop_cons (l := x.f6) (i := i) z_0
    have k1 : (i : Int) < (D : Int) := by omega
    have k2 : (0 : Int) ≤ (i : Int) := by omega
    have k3 : (i : Int) < (x.f5.length : Int) := by omega
    have k4 : (i : Int) < (x.f6.length : Int) := by omega
    have bad3 : EvP (fun k => tMd.j3 k (m : Int) (D : Int) (i : Int) true x.f0 x.f1 x.f2 x.f3 x.f4 x.f5 x.f6) (Dl x m i) :=
      EvP.step (f := fun _ => some false) (fun k => by rw [tMd.j3, if_pos rfl]) (EvP.now _ fun h => by simp at h)
    by_cases c1 : p < -16000
    · refine EvP.step (fun k => ?_) bad3
      rw [tMd.l0, if_pos k1, if_pos k2, if_pos k3, r0, if_pos c1]
    by_cases c2 : p > 16000
    · refine EvP.step (fun k => ?_) bad3
      rw [tMd.l0, if_pos k1, if_pos k2, if_pos k3, r0, if_neg c1, if_pos c2]
    by_cases c3 : q < -16000
    · refine EvP.step (fun k => ?_) bad3
      rw [tMd.l0, if_pos k1, if_pos k2, if_pos k3, r0, if_neg c1, if_neg c2, if_pos k4, r1, if_pos c3]
    by_cases c4 : q > 16000
    · refine EvP.step (fun k => ?_) bad3
      rw [tMd.l0, if_pos k1, if_pos k2, if_pos k3, r0, if_neg c1, if_neg c2, if_pos k4, r1, if_neg c3, decide_eq_true c4]
    refine EvP.step (f := fun k => tMd.j3 k (m : Int) (D : Int) (i : Int) false x.f0 x.f1 x.f2 x.f3 x.f4 x.f5 x.f6) (fun k => ?_) (EvP.step (fun k => ?_) (nx.mono fun b hb hbt => ⟨⟨by rw [e0]; exact .cons ⟨by omega, by omega⟩ (hb hbt).1.1, by rw [e1]; exact .cons ⟨by omega, by omega⟩ (hb hbt).1.2⟩, (hb hbt).2⟩))
    · rw [tMd.l0, if_pos k1, if_pos k2, if_pos k3, r0, if_neg c1, if_neg c2, if_pos k4, r1, if_neg c3, decide_eq_false c4]
    · rw [tMd.j3, if_neg z_3, wsuccB i z_0]
theorem tm_is (x : S62) (hf : Fit x) (m n : Nat) (hm : 1 ≤ m ∧ m ≤ 3) (hn : 1 ≤ n ∧ n ≤ 50) : EvP (fun k => tMD.f k x.f0 x.f1 x.f2 x.f3 x.f4 x.f5 x.f6 (n : Int) (m : Int)) (fun b => b = true → Md m n x) := by
  suffices h : EvP (fun k => tMd.f k x.f0 x.f1 x.f2 x.f3 x.f4 x.f5 x.f6 (n : Int) (m : Int)) (fun b => b = true → Md m n x) by
    refine EvP.congr (fun k => ?_) (EvP.bindP h (f := fun _ t => some t) (fun b hb => EvP.now _ hb))
    rfl
  have key : ∀ D : Nat, D = (if x.f4 = [] then n else x.f4.length) → EvP (fun k => tMd.j0 k (n : Int) (m : Int) (D : Int) x.f0 x.f1 x.f2 x.f3 x.f4 x.f5 x.f6) (fun b => b = true → Md m n x) := by
    intro D hD
    have bad : EvP (fun k => tMd.j1 k (m : Int) (D : Int) true x.f0 x.f1 x.f2 x.f3 x.f4 x.f5 x.f6) (fun b => b = true → Md m n x) :=
      EvP.step (f := fun _ => some false) (fun k => by rw [tMd.j1, if_pos rfl]) (EvP.now _ fun h => by simp at h)
    by_cases c1 : (x.f0.length : Int) = (m : Int)
    · by_cases c2 : (x.f5.length : Int) = (D : Int)
      · by_cases c3 : (x.f6.length : Int) = (D : Int)
        · obtain ⟨b, ⟨K, hK⟩, hb⟩ := fr_is x.f4 (n : Int) z_0 z_0 hf.l4
          cases b with
          | false =>
            refine EvP.stepE K (fun k hk => ?_) bad
            have p := hK k hk
            dsimp only at p
            rw [tMd.j0, if_pos c1, if_pos c2, if_pos c3, p, Option.bind_some]
            rfl
          | true =>
            obtain ⟨q1, q2⟩ := hb rfl
            have g := tm_l0 x hf m hm.2 z_0 D z_0 z_0 D 0 z_0
            refine EvP.stepE (f := fun k => tMd.j1 k (m : Int) (D : Int) false x.f0 x.f1 x.f2 x.f3 x.f4 x.f5 x.f6) K (fun k hk => ?_) (EvP.step (fun k => ?_) (g.mono fun b hb hbt => ?_))
            · have p := hK k hk
              dsimp only at p
              rw [tMd.j0, if_pos c1, if_pos c2, if_pos c3, p, Option.bind_some]
              rfl
            · rw [tMd.j1, if_neg z_3]
              rfl
            · obtain ⟨⟨a1, a2⟩, a3, a4, a5⟩ := hb hbt
              exact ⟨hm, ⟨hn.1, by omega⟩, by omega, a3, a4, a5, q1, by omega, by omega, by omega, a1, a2⟩
        · refine EvP.step (fun k => ?_) bad
          rw [tMd.j0, if_pos c1, if_pos c2, if_neg c3]
      · refine EvP.step (fun k => ?_) bad
        rw [tMd.j0, if_pos c1, if_neg c2]
    · refine EvP.step (fun k => ?_) bad
      rw [tMd.j0, if_neg c1]
  by_cases h4 : (x.f4.length : Int) = 0
  · refine EvP.congr (fun k => ?_) (key n (by rw [if_pos (List.length_eq_zero_iff.1 z_0)]))
    unfold tMd.f
    rw [if_pos h4]
  · refine EvP.congr (fun k => ?_) (key x.f4.length (by rw [if_neg (fun h => h4 (by rw [h]; rfl))]))
    unfold tMd.f
    rw [if_neg h4]

theorem ff_is (x : S62) : ∃ b, zG.f x.f0 x.f1 x.f2 x.f3 x.f4 x.f5 x.f6 = some b ∧ (b = true → Fit x) := by
  unfold zG.f
  by_cases c0 : (x.f0.length : Int) > 2147483647
  · exact ⟨false, if_pos c0, by simp⟩
  rw [if_neg c0]
  by_cases c2 : (x.f2.length : Int) > 2147483647
  · exact ⟨false, if_pos c2, by simp⟩
  rw [if_neg c2]
  by_cases c3 : (x.f3.length : Int) > 2147483647
  · exact ⟨false, if_pos c3, by simp⟩
  rw [if_neg c3]
  by_cases c4 : (x.f4.length : Int) > 2147483647
  · exact ⟨false, if_pos c4, by simp⟩
  rw [if_neg c4]
  by_cases c5 : (x.f5.length : Int) > 2147483647
  · exact ⟨false, if_pos c5, by simp⟩
  rw [if_neg c5]
  by_cases c6 : (x.f6.length : Int) > 2147483647
  · exact ⟨false, if_pos c6, by simp⟩
  rw [if_neg c6]
  exact ⟨true, rfl, fun _ => ⟨by omega, by omega, by omega, by omega, by omega, by omega⟩⟩
theorem zf_l0 (l : List S62) (hl : l.length ≤ 2147483647) : ∀ (t : List S62) (i : Nat) (_ : l.drop i = t) (_ : i ≤ l.length), EvP (fun k => zF.l0 k l (l.length : Int) (i : Int)) (fun b => b = true → ∀ x ∈ t, Fit x)
  | [], i, hd, hi => by
    have : l.length ≤ i := by simpa using hd
    refine EvP.step (f := fun _ => some true) (fun k => ?_) (EvP.now _ fun _ x hx => by simp at hx)
    rw [zF.l0, if_neg z_0]
  | x :: t, i, hd, hi => by
    obtain ⟨_, hlt, hd2⟩ := drop_head hd
    have hrd := rd62 hd
    obtain ⟨b, h1, h2⟩ := ff_is x
    have k1 : (i : Int) < (l.length : Int) := by omega
    have k2 : (0 : Int) ≤ (i : Int) := by omega
    cases b with
    | false =>
      refine EvP.step (f := fun _ => some false) (fun k => ?_) (EvP.now _ z_3)
      rw [zF.l0, if_pos k1, if_pos k2, if_pos k1, hrd, h1, Option.bind_some, if_neg z_3]
    | true =>
      refine EvP.step (fun k => ?_) ((zf_l0 l hl t (i + 1) hd2 z_0).mono fun b hb hbt y hy => ?_)
      · rw [zF.l0, if_pos k1, if_pos k2, if_pos k1, hrd, h1, Option.bind_some, if_pos rfl, wsuccB i z_0]
      · rcases List.mem_cons.1 hy with rfl | hy
        · exact h2 rfl
        · exact hb hbt y hy
theorem zf_is (l : List S62) : EvP (fun k => zF.f k l) (fun b => b = true → l.length ≤ 2147483647 ∧ ∀ x ∈ l, Fit x) := by
  by_cases h : (l.length : Int) > 2147483647
  · refine EvP.congr (f := fun _ => some false) (fun k => ?_) (EvP.now _ z_3)
    unfold zF.f
    rw [if_pos h]
  · refine EvP.congr (fun k => ?_) ((zf_l0 l z_0 l 0 rfl (Nat.zero_le _)).mono fun b hb hbt => ⟨by omega, hb hbt⟩)
    unfold zF.f
    rw [if_neg h]
    rfl
theorem st_is {m n : Nat} (x : S62) (h : Md m n x) : Ev (fun k => sT.f k x.f0 x.f1 x.f2 x.f3 x.f4 x.f5 x.f6 x.f0 x.f1 x.f2 x.f3 x.f4 x.f5 x.f6) true := by
  have m1 := h.m1
  have n1 := h.n1
  have b0 := h.p
  have b4 := h.len
  have b23 : x.f2.length < 1000 ∧ x.f3.length < 1000 := by
    cases e : x.f1 with
    | true => obtain ⟨i1, i2, _⟩ := h.inter e; omega
    | false => obtain ⟨i1, i2⟩ := h.nint e; rw [i1, i2]; simp
  have b56 : x.f5.length < 1000 ∧ x.f6.length < 1000 := by
    have b1 := h.dx
    have b2 := h.dy
    split at b1 <;> split at b2 <;> omega
  obtain ⟨K0, h0⟩ := eq_is x.f0 z_0
  obtain ⟨K1, h1⟩ := eq_is x.f2 z_0
  obtain ⟨K2, h2⟩ := eq_is x.f3 z_0
  obtain ⟨K3, h3⟩ := eq_is x.f4 z_0
  obtain ⟨K4, h4⟩ := eq_is x.f5 z_0
  obtain ⟨K5, h5⟩ := eq_is x.f6 z_0
  refine ⟨max K0 (max K1 (max K2 (max K3 (max K4 K5)))), fun k hk => ?_⟩
  have p0 := h0 k z_0
  have p1 := h1 k z_0
  have p2 := h2 k z_0
  have p3 := h3 k z_0
  have p4 := h4 k z_0
  have p5 := h5 k z_0
  dsimp only at p0 p1 p2 p3 p4 p5 ⊢
  unfold sT.f
  rw [if_pos z_3, p0, Option.bind_some, if_pos rfl, p1, Option.bind_some, if_pos rfl, p2, Option.bind_some, if_pos rfl, p3, Option.bind_some, if_pos rfl, p4, Option.bind_some, if_pos rfl, p5, Option.bind_some]
theorem it_l0 {m n : Nat} (l : List S62) (hl : l.length ≤ 8) : ∀ (t : List S62) (i : Nat) (_ : l.drop i = t) (_ : i ≤ l.length) (_ : ∀ x ∈ t, Md m n x), Ev (fun k => iTu.l0 k l l (l.length : Int) (i : Int)) true
  | [], i, hd, hi, hm => by
    have : l.length ≤ i := by simpa using hd
    refine Ev.step (f := fun _ => some true) (fun k => ?_) (Ev.now _)
    rw [iTu.l0, if_neg z_0]
  | x :: t, i, hd, hi, hm => by
    obtain ⟨_, hlt, hd2⟩ := drop_head hd
    have hrd := rd62 hd
    obtain ⟨K, hK⟩ := it_l0 l hl t (i + 1) hd2 z_0 (fun y hy => hm y (List.mem_cons_of_mem _ hy))
    obtain ⟨K2, hK2⟩ := st_is x (hm x List.mem_cons_self)
    have k1 : (i : Int) < (l.length : Int) := by omega
    have k2 : (0 : Int) ≤ (i : Int) := by omega
    refine ⟨max K K2 + 1, fun j hj => ?_⟩
    obtain ⟨k, rfl⟩ : ∃ k, j = k + 1 := ⟨j - 1, by omega⟩
    have p := hK k z_0
    have p2 := hK2 k z_0
    dsimp only at p p2 ⊢
    rw [iTu.l0, if_pos k1, if_pos k2, if_pos k1, if_pos k1, hrd, p2, Option.bind_some, if_pos rfl, wsucc i z_0, p]
theorem it_is {m n : Nat} (l : List S62) (hl : l.length ≤ 8) (hm : ∀ x ∈ l, Md m n x) : Ev (fun k => iTu.f k l l) true := Ev.congr (fun k => if_pos rfl) (it_l0 l hl l 0 rfl (Nat.zero_le _) hm)
theorem law_j2 (x0 : List S62) (W : List Int) (hW : By W) (m n : Nat) (hm : 1 ≤ m ∧ m ≤ 3) (hn : 4 ≤ n ∧ n ≤ 50) (h1 : 1 ≤ x0.length) (h8 : x0.length ≤ 8) (hx : ∀ x ∈ x0, Md m n x) : Ev (fun k => laws_FnTuplesOf.j2 k x0 W (n : Int) (m : Int) false) true := by
  obtain ⟨⟨B, fits⟩, ⟨K1, hK1⟩, sh, shb, s, rs, hs, ds, q1, q2, q3⟩ := tb_is x0 h1 h8 m n hx W hW (n : Int) (m : Int)
  dsimp only at q3
  obtain ⟨K2, hK2⟩ := tup_is m n q1 q2 hx h1 h8
  rw [← q3] at hK2
  obtain ⟨K3, hK3⟩ := to_l0 m n x0 h8 hx x0 [] rfl (Nat.zero_le _) hx
  obtain ⟨K4, hK4⟩ := it_is x0 h8 hx
  have c1 : ¬ (m : Int) < 1 := by omega
  have c2 : ¬ (m : Int) > 60 := by omega
  have c3 : ¬ (n : Int) < 4 := by omega
  have c4 : ¬ (n : Int) > 4000 := by omega
  refine ⟨max K1 (max K2 (max K3 K4)) + 3, fun j hj => ?_⟩
  obtain ⟨k, rfl⟩ : ∃ k, j = k + 1 + 1 := ⟨j - 2, by omega⟩
  have p1 := hK1 (k + 1) z_0
  have p2 := hK2 k z_0
  have p3 := hK3 k z_0
  have p4 := hK4 (k + 1) z_0
  dsimp only at p1 p2 p3 p4 ⊢
  have p3' : iTO.l0 k [] (x0.map to143) ((x0.map to143).length : Int) 0 = some ([] ++ x0, true, true) := by rw [List.length_map]; exact p3
  rw [laws_FnTuplesOf.j2, if_neg z_3, p1, Option.bind_some]
  dsimp only
  cases fits with
  | false => rw [if_neg z_3]
  | true =>
    have ti : iTO.f (k + 1) B (m : Int) (n : Int) = some ([] ++ x0, true, true) := by
      unfold iTO.f
      rw [if_neg c1, if_neg c2, if_neg c3, decide_eq_false c4, iTO.j0, if_neg z_3]
      have z : zT.f k B (m : Int) (n : Int) = some (x0.map to143, none) := by
        unfold zT.f
        rw [p2, Option.bind_some]
      rw [z, Option.bind_some]
      dsimp only
      rw [if_pos Option.isNone_none]
      exact p3'
    rw [if_pos rfl, ti, Option.bind_some]
    dsimp only
    rw [if_pos rfl, if_pos rfl, List.nil_append, p4, Option.bind_some]
theorem law_l0 (x0 : List S62) (hl : x0.length ≤ 2147483647) (W : List Int) (hW : By W) (m n : Nat) (hm : 1 ≤ m ∧ m ≤ 3) (hn : 4 ≤ n ∧ n ≤ 50) : ∀ (t dn : List S62) (_ : x0 = dn ++ t) (_ : ∀ x ∈ t, Fit x) (_ : ∀ x ∈ dn, Md m n x), Ev (fun k => laws_FnTuplesOf.l0 k x0 W (n : Int) (m : Int) x0 (x0.length : Int) (dn.length : Int)) true
  | [], dn, hd, hf, hx => by
    rw [List.append_nil] at hd
    subst hd
    have c0 : ¬ (x0.length : Int) < (x0.length : Int) := by omega
    by_cases h0 : (x0.length : Int) = 0
    · refine Ev.step (f := fun k => laws_FnTuplesOf.j2 k x0 W (n : Int) (m : Int) true) (fun k => ?_) (Ev.step (f := fun _ => some true) (fun k => ?_) (Ev.now _))
      · rw [laws_FnTuplesOf.l0, if_neg c0, if_pos h0]
      · rw [laws_FnTuplesOf.j2, if_pos rfl]
    · by_cases h8 : (x0.length : Int) > 8
      · refine Ev.step (f := fun k => laws_FnTuplesOf.j2 k x0 W (n : Int) (m : Int) true) (fun k => ?_) (Ev.step (f := fun _ => some true) (fun k => ?_) (Ev.now _))
        · rw [laws_FnTuplesOf.l0, if_neg c0, if_neg h0, decide_eq_true h8]
        · rw [laws_FnTuplesOf.j2, if_pos rfl]
      · refine Ev.step (fun k => ?_) (law_j2 x0 W hW m n hm hn z_0 z_0 hx)
        rw [laws_FnTuplesOf.l0, if_neg c0, if_neg h0, decide_eq_false h8]
  | x :: t, dn, hd, hf, hx => by
    have hdr : x0.drop dn.length = x :: t := by rw [hd, List.drop_left]
    obtain ⟨_, hlt, _⟩ := drop_head hdr
    have hrd := rd62 hdr
    obtain ⟨b, ⟨K, hK⟩, hb⟩ := tm_is x (hf x List.mem_cons_self) m n hm ⟨by omega, hn.2⟩
    have k1 : (dn.length : Int) < (x0.length : Int) := by omega
    have k2 : (0 : Int) ≤ (dn.length : Int) := by omega
    have next : b = true → Ev (fun k => laws_FnTuplesOf.l0 k x0 W (n : Int) (m : Int) x0 (x0.length : Int) ((dn.length + 1 : Nat) : Int)) true := fun hbt => by
      have := law_l0 x0 hl W hW m n hm hn t (dn ++ [x]) (by rw [List.append_assoc]; exact hd) (fun y hy => hf y (List.mem_cons_of_mem _ hy)) (fun y hy => by
        rcases List.mem_append.1 hy with hy | hy
        · exact hx y hy
        · rw [List.mem_singleton.1 hy]; exact hb hbt)
      rw [List.length_append, List.length_singleton] at this
      exact this
    cases b with
    | false =>
      refine ⟨K + 1, fun j hj => ?_⟩
      obtain ⟨k, rfl⟩ : ∃ k, j = k + 1 := ⟨j - 1, by omega⟩
      have p := hK k z_0
      dsimp only at p ⊢
      rw [laws_FnTuplesOf.l0, if_pos k1, if_pos k2, if_pos k1, hrd, p, Option.bind_some, if_neg z_3]
    | true =>
      obtain ⟨K2, hK2⟩ := next rfl
      refine ⟨max K K2 + 1, fun j hj => ?_⟩
      obtain ⟨k, rfl⟩ : ∃ k, j = k + 1 := ⟨j - 1, by omega⟩
      have p := hK k z_0
      have p2 := hK2 k z_0
      dsimp only at p p2 ⊢
      rw [laws_FnTuplesOf.l0, if_pos k1, if_pos k2, if_pos k1, hrd, p, Option.bind_some, if_pos rfl, wsuccB _ z_0, p2]
theorem wf_u8 (x : Int) (h : (Lit.int .u8 x).wf = true) : 0 ≤ x ∧ x ≤ 255 := by
  simp only [Lit.wf, Bool.and_eq_true, decide_eq_true_eq] at h; exact h
theorem FnTuplesOf : laws_FnTuplesOf.Pure := by
  intro l0 a1 a2 l3 hl hg h1 h2 h3 _ hW
  have q1 := wf_u8 a1 h1
  have q2 := wf_u8 a2 h2
  have hBy : By l3 := fun x hx => wf_u8 x (hW x hx)
  obtain ⟨n, hn, hn1⟩ : ∃ n : Nat, wrap64 (4 + (wrap64 (Int.tmod a1 30))) = (n : Int) ∧ 4 ≤ n ∧ n ≤ 50 := by
    have t0 : 0 ≤ Int.tmod a1 30 := Int.tmod_nonneg _ q1.1
    have t1 : Int.tmod a1 30 < 30 := Int.tmod_lt_of_pos _ z_0
    exact ⟨(4 + Int.tmod a1 30).toNat, by rw [w64 (Int.tmod a1 30) z_0, w64 _ z_0]; omega, by omega, by omega⟩
  obtain ⟨m, hm, hm1⟩ : ∃ m : Nat, wrap64 (1 + (wrap64 (Int.tmod a2 3))) = (m : Int) ∧ 1 ≤ m ∧ m ≤ 3 := by
    have t0 : 0 ≤ Int.tmod a2 3 := Int.tmod_nonneg _ q2.1
    have t1 : Int.tmod a2 3 < 3 := Int.tmod_lt_of_pos _ z_0
    exact ⟨(1 + Int.tmod a2 3).toNat, by rw [w64 (Int.tmod a2 3) z_0, w64 _ z_0]; omega, by omega, by omega⟩
  obtain ⟨b, ⟨K, hK⟩, hb⟩ := zf_is l0
  have hj0 : b = true → Ev (fun k => laws_FnTuplesOf.j0 k l0 a1 a2 l3 false) true := fun hbt => by
    obtain ⟨e1, e2⟩ := hb hbt
    refine Ev.step (fun k => ?_) (law_l0 l0 e1 l3 hBy m n hm1 hn1 l0 [] rfl e2 (fun y hy => by simp at hy))
    rw [laws_FnTuplesOf.j0, if_neg z_3, hn, hm]
    rfl
  have hj1 : ∀ k, laws_FnTuplesOf.j0 (k + 1) l0 a1 a2 l3 true = some true := fun k => by rw [laws_FnTuplesOf.j0, if_pos rfl]
  cases b with
  | false =>
    refine ⟨K + 1, ?_⟩
    have p := hK (K + 1) z_0
    dsimp only at p
    unfold laws_FnTuplesOf.f
    rw [p, Option.bind_some, if_neg z_3, hj1]
  | true =>
    obtain ⟨K2, hK2⟩ := hj0 rfl
    refine ⟨max K K2 + 1, ?_⟩
    have p := hK (max K K2 + 1) z_0
    have p2 := hK2 (max K K2 + 1) z_0
    dsimp only at p p2
    unfold laws_FnTuplesOf.f
    rw [p, Option.bind_some, if_pos rfl]
    by_cases h : (l3.length : Int) > 2147483647
    · rw [decide_eq_true h, hj1]
    · rw [decide_eq_false h]
      exact p2

end Go.Proofs.Ytchkmmbedgolbaa.Pure
