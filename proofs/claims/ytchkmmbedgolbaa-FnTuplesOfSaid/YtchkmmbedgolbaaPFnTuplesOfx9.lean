-- Written by a program of this session (xprint) out of the translation; Lean checks it.
import Derived.Test.YtchkmmbedgolbaaPFnTuplesOfx0
namespace Go.Proofs.Ytchkmmbedgolbaa.PFnTuplesOf
open Go.RowKit Go.Proofs.YtchkmmbedgolbaaW.PrintWords Go.Proofs.YtchkmmbedgolbaaW.PrintLast Go.Proofs.YtchkmmbedgolbaaW.PrintMore
attribute [local go_sem] max2_int min2_int max_two min_two max_three min_three max_four min_four   -- for this text's walks alone
set_option linter.unusedVariables false
set_option linter.unusedSimpArgs false
theorem prx9 {P : Program} {ops : Array Oper} {Q : Exit → Act → World → Prop} {md : Region.Mode} {S : World → Prop} {ds : List Nat} (i N : Nat) {oi : Oper} {v : Value} {fuel : Nat} {l : Array Bool} {a : Act} {w : World} (l' : Array Bool) {a' : Act} (h : wpAnyLast P md ops Q S ds fuel l' a' w) (hi : ops[i]? = some oi := by rfl) (hN : oi.dst = some N := by rfl) (hc : anyB md ops l l' i = true := by first | exact any_of HT_.out (by kernel_rfl) | kernel_rfl) (hQ : ∀ c a w, Q (.panic c) (a.put oi.dst v) w → Q (.panic c) a w := by exact fun _ _ _ h => h) (hy : Yields P ops oi v a := by refine Or.inl ⟨by rfl, ?_⟩; intro w'; go_simp; with_reducible rfl) (ha : a.put (some N) v = a' := by first | (simp only [Act.put, L1_, L2_, L3_, i64_w, i32_w]; rfl) | ((try go_ints); (try simp (disch := omega) only [n3_]); simp only [Act.put, L1_, L2_, L3_, i64_w, i32_w]; rfl)) : wpAnyLast P md ops Q S ds (fuel + 1) l a w := pure_ l' hi hN hc hQ hy ha h
theorem z9_4 {p : Prop} (h : p := by omega) : p := h
theorem z9_3 {p : Prop} (h : p := by first | assumption | exact rfl | exact ⟨_, _, rfl⟩) : p := h
theorem z9_2 {p : Prop} (h : p := by (with_reducible repeat (first | apply Kd.V_alloc | apply Kd.V_drewN | apply Kd.V_drew)); exact HO0.out) : p := h
theorem z9_1 {p : Prop} (h : p := by first | (with_reducible assumption) | assumption) : p := h
theorem z9_0 {p : Prop} (h : p := by repeat (first | (with_reducible first | exact HB.out | apply below_alloc | apply pw_below_drewN | apply below_drew1 | refine below_set ?_ GB20.out) | exact HB.out)) : p := h

def bU.f (l0 : List Int) : Option (Int) := if 2 ≤ l0.length ∧ (0 ≤ rd l0 0 ∧ rd l0 0 ≤ 255) ∧ (0 ≤ rd l0 1 ∧ rd l0 1 ≤ 255) then some (rd l0 0 * 256 + rd l0 1) else none
set_option maxHeartbeats 800000 in
theorem bU.calls (A0 : Option Addr) (c0 : Nat) (l0 : List Int) (r : Int) (w : World) (hr0 : Kd.C (Kd.int .u8) w A0 l0.length l0) (hc0 : l0.length ≤ c0) (h : bU.f l0 = some r) :
    Calls Try.prog 57 #[.agg #[], .slice A0 l0.length c0] w fun e w' => e = .returned (.int .u16 r) ∧ Below w.heap.size w w' := by
  unfold bU.f at h
  split at h
  case isFalse => simp at h
  rename_i hh
  obtain ⟨h2, h0, h1⟩ := hh
  injection h with h
  subst h
  obtain ⟨ad, rfl, d0⟩ := Kd.at_int hr0 0 z9_4 z9_4
  obtain ⟨ad', he, d1⟩ := Kd.at_int hr0 1 z9_4 z9_4
  obtain rfl := Option.some.inj he
  generalize rd l0 0 = x at *
  generalize rd l0 1 = y at *
  obtain ⟨b0, hb0, rfl⟩ : ∃ b : Nat, b < 256 ∧ x = (b : Int) := ⟨x.toNat, by omega, by omega⟩
  obtain ⟨b1, hb1, rfl⟩ : ∃ b : Nat, b < 256 ∧ y = (b : Int) := ⟨y.toNat, by omega, by omega⟩
  have d1' : w.cell? { block := ad.block, off := ad.off + 1 } = some (.int .u8 b1) := d1
  have d0' : w.cell? ad = some (.int .u8 b0) := d0
  have a1 := cell?_alloc_old (.cells #[] 154) d1'
  have a0 := cell?_alloc_old (.cells #[] 154) d0'
  have e0 : ((w.alloc (.cells #[] 154)).drew).cell? ad = some (.int .u8 b0) := a0
  have e1 : ((w.alloc (.cells #[] 154)).drew).cell? { block := ad.block, off := ad.off + 1 } = some (.int .u8 b1) := a1
  clear d0 d1 he hr0
  have mixed : Try.prog.follows Departure.mixedOrders = true := by kernel_rfl
  have l1 : (1 : Int) < (l0.length : Int) := by omega
  have l0' : (0 : Int) < (l0.length : Int) := by omega
  go_enter Try.func57, Try.ntmps57
  go_wp2
  go_region_o
  go_wp2
  go_ret
  refine ⟨?_, Below.drew ((Below.refl _ w).alloc (Nat.le_refl _) _)⟩
  have hv := u16_or8 (y := (b1 : Int)) (x := (b0 : Int) * 256) z9_4 z9_4 z9_4 z9_4 z9_4
  have he : (b1 : Int) + (b0 : Int) * 256 = (b0 : Int) * 256 + (b1 : Int) := by omega
  rw [he] at hv
  simp only [hv]
  rfl

def eN.f (a0 : ByteArray) : Option (Option Int) := some (some 0)
set_option maxHeartbeats 400000 in
theorem eN.calls (a0 : ByteArray) (r : Option Int) (w : World) (h : eN.f a0 = some r) :
    Calls Try.prog 56 #[.string a0] w fun e w' => ∃ e0_ : Value, e = .returned e0_ ∧ EV e0_ r ∧ Below w.heap.size w w' := by
  obtain rfl := Option.some.inj h
  go_enter Try.func56, Try.ntmps56
  go_wp2
  go_ret
  exact ⟨_, rfl, ⟨_, _, rfl⟩, (Below.refl _ _).alloc (Nat.le_refl _) _⟩

def gPC.f (l0 : List Int) : Option (Int × List Int × Option Int) := if (l0.length : Int) < 1 then ((eN.f (⟨#[105, 110, 118, 97, 108, 105, 100, 32, 103, 108, 121, 112, 104, 32, 118, 97, 114, 105, 97, 116, 105, 111, 110, 32, 112, 111, 105, 110, 116, 115, 32, 110, 117, 109, 98, 101, 114, 115, 32, 40, 69, 79, 70, 41]⟩ : ByteArray)).bind fun t282 => (some (0, ([] : List Int), t282))) else (if 0 < (l0.length : Int) then (if (rd l0 0) = 0 then (if 1 ≤ (l0.length : Int) then (some (0, (l0.drop 1), none)) else (none)) else (if (Go.bits .and .u8 (rd l0 0) 128) = 0 then (if 1 ≤ (l0.length : Int) then (some (IntKind.u16.wrap (rd l0 0), (l0.drop 1), none)) else (none)) else (if (l0.length : Int) < 2 then ((eN.f (⟨#[105, 110, 118, 97, 108, 105, 100, 32, 103, 108, 121, 112, 104, 32, 118, 97, 114, 105, 97, 116, 105, 111, 110, 32, 112, 111, 105, 110, 116, 115, 32, 110, 117, 109, 98, 101, 114, 115, 32, 40, 69, 79, 70, 41]⟩ : ByteArray)).bind fun t296 => (some (0, ([] : List Int), t296))) else (if 1 < (l0.length : Int) then (if 2 ≤ (l0.length : Int) then (some (Go.bits .or .u16 (IntKind.u16.wrap ((IntKind.u16.wrap (Go.bits .andNot .u8 (rd l0 0) 128)) * 256)) (IntKind.u16.wrap (rd l0 1)), (l0.drop 2), none)) else (none)) else (none))))) else (none))
set_option maxHeartbeats 8000000 in
set_option maxRecDepth 100000 in
theorem gPC.calls (P0_ : Nat → Prop) (A0 : Option Addr) (c0 : Nat) (l0 : List Int) (r1 : Int) (r2 : List Int) (r3 : Option Int) (w : World) (hs0 : Kd.V (Kd.int .u8) 5 w w.heap.size (fun k_ => P0_ k_) (.slice A0 l0.length c0) l0) (h : gPC.f l0 = some (r1, r2, r3)) :
  Calls Try.prog 91 #[.slice A0 l0.length c0] w fun e w' => ∃ v1_ : Value, ∃ e2_ : Value, e = .returned (.tuple #[.int .u16 r1, v1_, e2_]) ∧ Kd.V (Kd.int .u8) 5 w' w.heap.size (fun k_ => (P0_ k_ ∨ w.heap.size ≤ k_)) v1_ r2 ∧ EV e2_ r3 ∧ Below w.heap.size w w' := by
 have HO0 := Aside0.mk (show Kd.V (Kd.int .u8) 5 w w.heap.size (fun k_ => (P0_ k_ ∨ w.heap.size ≤ k_)) (.slice A0 l0.length c0) l0 from Kd.V_mono hs0 (fun k_ hk => .inl hk))
 have HB := Aside0.mk (Below.refl w.heap.size w)
 have H : (if (l0.length : Int) < 1 then ((eN.f (⟨#[105, 110, 118, 97, 108, 105, 100, 32, 103, 108, 121, 112, 104, 32, 118, 97, 114, 105, 97, 116, 105, 111, 110, 32, 112, 111, 105, 110, 116, 115, 32, 110, 117, 109, 98, 101, 114, 115, 32, 40, 69, 79, 70, 41]⟩ : ByteArray)).bind fun t282 => (some (0, ([] : List Int), t282))) else (if 0 < (l0.length : Int) then (if (rd l0 0) = 0 then (if 1 ≤ (l0.length : Int) then (some (0, (l0.drop 1), none)) else (none)) else (if (Go.bits .and .u8 (rd l0 0) 128) = 0 then (if 1 ≤ (l0.length : Int) then (some (IntKind.u16.wrap (rd l0 0), (l0.drop 1), none)) else (none)) else (if (l0.length : Int) < 2 then ((eN.f (⟨#[105, 110, 118, 97, 108, 105, 100, 32, 103, 108, 121, 112, 104, 32, 118, 97, 114, 105, 97, 116, 105, 111, 110, 32, 112, 111, 105, 110, 116, 115, 32, 110, 117, 109, 98, 101, 114, 115, 32, 40, 69, 79, 70, 41]⟩ : ByteArray)).bind fun t296 => (some (0, ([] : List Int), t296))) else (if 1 < (l0.length : Int) then (if 2 ≤ (l0.length : Int) then (some (Go.bits .or .u16 (IntKind.u16.wrap ((IntKind.u16.wrap (Go.bits .andNot .u8 (rd l0 0) 128)) * 256)) (IntKind.u16.wrap (rd l0 1)), (l0.drop 2), none)) else (none)) else (none))))) else (none))) = some (r1, r2, r3) := h
 clear h
 by_cases c2 : (l0.length : Int) < 1
 ·rw [if_pos c2] at H
  have c2b0 : decide ((l0.length : Int) < 1) = true := decide_eq_true c2
  have c2b1 : decide (l0.length < 1) = true := decide_eq_true z9_4
  clear c2
  replace H := Option.bind_eq_some_iff.mp H
  obtain ⟨t282, A30, H⟩ := H
  replace H : (some (0, ([] : List Int), t282)) = some (r1, r2, r3) := H
  have A3 := Aside0.mk A30
  clear A30
  simp only [Option.some.injEq, Prod.mk.injEq] at H
  obtain ⟨rfl, rfl, rfl⟩ := H
  go_enter Try.func91, Try.ntmps91
  go_wp2_with (first | (go_at_call 56; (with_reducible refine (eN.calls (⟨#[105, 110, 118, 97, 108, 105, 100, 32, 103, 108, 121, 112, 104, 32, 118, 97, 114, 105, 97, 116, 105, 111, 110, 32, 112, 111, 105, 110, 116, 115, 32, 110, 117, 109, 98, 101, 114, 115, 32, 40, 69, 79, 70, 41]⟩ : ByteArray) t282 _ A3.out).mono ?_); rintro e w6 ⟨ev4, rfl, he5, hb⟩; have n0_ := Aside0.mk (Kd.V_below z9_2 hb); have n1_ := Aside0.mk (below_step z9_0 hb); clear HO0; clear HB; have HO0 := n0_; have HB := n1_; clear n0_ n1_ hb; (first | (obtain rfl := EV_none he5) | (obtain ⟨te_, pe_, rfl⟩ := EV_some he5) | skip)))
  repeat (go_quiet (first | (go_at_call 56; (with_reducible refine (eN.calls (⟨#[105, 110, 118, 97, 108, 105, 100, 32, 103, 108, 121, 112, 104, 32, 118, 97, 114, 105, 97, 116, 105, 111, 110, 32, 112, 111, 105, 110, 116, 115, 32, 110, 117, 109, 98, 101, 114, 115, 32, 40, 69, 79, 70, 41]⟩ : ByteArray) t282 _ A3.out).mono ?_); rintro e w6 ⟨ev4, rfl, he5, hb⟩; have n0_ := Aside0.mk (Kd.V_below z9_2 hb); have n1_ := Aside0.mk (below_step z9_0 hb); clear HO0; clear HB; have HO0 := n0_; have HB := n1_; clear n0_ n1_; (try clear hb); (try clear hb2); (try clear hk); (try clear hi); (first | (obtain rfl := EV_none he5) | (obtain ⟨te_, pe_, rfl⟩ := EV_some he5) | skip))); try go_wp2_with (first | (go_at_call 56; (with_reducible refine (eN.calls (⟨#[105, 110, 118, 97, 108, 105, 100, 32, 103, 108, 121, 112, 104, 32, 118, 97, 114, 105, 97, 116, 105, 111, 110, 32, 112, 111, 105, 110, 116, 115, 32, 110, 117, 109, 98, 101, 114, 115, 32, 40, 69, 79, 70, 41]⟩ : ByteArray) t282 _ A3.out).mono ?_); rintro e w6 ⟨ev4, rfl, he5, hb⟩; have n0_ := Aside0.mk (Kd.V_below z9_2 hb); have n1_ := Aside0.mk (below_step z9_0 hb); clear HO0; clear HB; have HO0 := n0_; have HB := n1_; clear n0_ n1_; (try clear hb); (try clear hb2); (try clear hk); (try clear hi); (first | (obtain rfl := EV_none he5) | (obtain ⟨te_, pe_, rfl⟩ := EV_some he5) | skip))))
  go_ret3
  exact ⟨_, _, by first | rfl | (simp [errW_none, errW_some] <;> rfl) | (simp [*, errW_none, errW_some] <;> rfl), Kd.V_nil _ _ _ _ _, z9_3, by repeat (first | (with_reducible first | exact HB.out | apply below_alloc | apply pw_below_drewN | apply below_drew1 | refine below_set ?_ GB20.out) | exact HB.out)⟩
 ·rw [if_neg c2] at H
  have c2b0 : decide ((l0.length : Int) < 1) = false := decide_eq_false c2
  have c2b1 : decide (l0.length < 1) = false := decide_eq_false z9_4
  clear c2
  by_cases c7 : 0 < (l0.length : Int)
  rotate_left
  ·rw [if_neg c7] at H
   exact absurd H (by simp)
  rw [if_pos c7] at H
  have c7b0 : decide (0 < (l0.length : Int)) = true := decide_eq_true c7
  have c7b1 : decide (0 < l0.length) = true := decide_eq_true z9_4
  clear c7
  by_cases c8 : (rd l0 0) = 0
  ·rw [if_pos c8] at H
   have c8b0 : ((rd l0 0) == 0) = true := beq_iff_eq.mpr c8
   have c8b1 : ((rd l0 0) != 0) = false := bne_eq_false_iff_eq.mpr c8
   clear c8
   by_cases c9 : 1 ≤ (l0.length : Int)
   rotate_left
   ·rw [if_neg c9] at H
    exact absurd H (by simp)
   rw [if_pos c9] at H
   have c9b0 := eq_true c9
   have c9b1 : decide (1 ≤ (l0.length : Int)) = true := decide_eq_true c9
   clear c9
   obtain ⟨y284, hy284⟩ : ∃ y_ : List Int, y_ = (l0.drop 1) := ⟨_, rfl⟩
   replace H : (some (0, y284, none)) = some (r1, r2, r3) := by first | (rw [hy284]; with_reducible exact H) | (have H2_ := (Option.bind_some _ _).symm.trans H; rw [hy284]; with_reducible exact H2_) | (have H2_ := (Option.bind_some _ _).symm.trans H; with_reducible exact H2_) | with_reducible exact H | (rw [hy284]; exact H) | exact H
   have Ny284 := Aside0.mk hy284
   clear hy284
   simp only [Option.some.injEq, Prod.mk.injEq] at H
   obtain ⟨rfl, rfl, rfl⟩ := H
   have p283 : 0 ≤ (0 : Int) := z9_4
   have q283 : 0 < (l0.length : Int) := of_decide_eq_true z9_1
   obtain ⟨ad283, e283, hx283_0⟩ := Kd.at_int (Kd.V_reads' HO0.out).2.2 0 p283 q283
   cases e283
   have qi283 : (0 < l0.length) = True := eq_true z9_4
   (try rw [show ((0 : Int)).toNat = 0 from rfl] at hx283_0)
   (try rw [Addr.add_zero'] at hx283_0)
   replace p283 := eq_true p283
   replace q283 := eq_true q283
   have q10 : (1 : Int) ≤ ((l0.length : Int) : Int) := of_decide_eq_true z9_1
   obtain ⟨i010, hi010, _, hsz10, _⟩ := info_parts info5
   have hroom10 : l0.length ≤ c0 := (Kd.V_reads' HO0.out).2.1
   have hC10 : Kd.F (Kd.int .u8) _ _ (some ad283) l0.length l0 := (Kd.V_at (base := w.heap.size) HO0.out).2.2
   have hcut10 := cut_from (P := Try.prog) 22 5 .i64 Try.underlying22 hi010 1 hsz10 (some ad283) l0.length c0 1 z9_4 q10
   have hr10 := Kd.F_cut (m := (1 : Int).toNat) (c := c0) hC10 z9_4 hroom10
   obtain ⟨A10, hA10⟩ : ∃ A1, A1 = (if c0 = (1 : Int).toNat then (some ad283) else ((some ad283) : Option Addr).map (·.add ((1 : Int).toNat * 1))) := ⟨_, rfl⟩
   obtain ⟨c10, hc10⟩ : ∃ c1, c1 = c0 - (1 : Int).toNat := ⟨_, rfl⟩
   have hy10 : y284.length = l0.length - (1 : Int).toNat := (by rw [Ny284.out, List.length_drop] <;> omega)
   rw [show (l0).drop (1 : Int).toNat = y284 from Ny284.out.symm] at hr10
   replace hr10 : Kd.F (Kd.int .u8) _ _ A10 y284.length y284 := (by rw [hA10]; exact hr10)
   rw [← hy10, ← hA10, ← hc10] at hcut10
   have HO288 := Aside0.mk (show Kd.V (Kd.int .u8) 5 _ w.heap.size _ (.slice A10 y284.length c10) y284 from Kd.V_mk (by rw [hy10, hc10]; exact Nat.sub_le_sub_right hroom10 _) hr10)
   have HC288 := Aside0.mk (show y284.length ≤ c10 from by rw [hy10, hc10]; exact Nat.sub_le_sub_right hroom10 _)
   clear hr10 hC10 hroom10 hi010 hsz10 hc10
   have KY10 := Aside0.mk hy10
   have KA10 := Aside0.mk hA10
   clear hy10 hA10
   replace q10 := eq_true q10
   go_enter Try.func91, Try.ntmps91
   go_wp2
   repeat (go_quiet (fail); try go_wp2)
   go_ret3
   exact ⟨_, _, by first | rfl | (simp [errW_none, errW_some] <;> rfl) | (simp [*, errW_none, errW_some] <;> rfl), by (with_reducible repeat (first | apply Kd.V_alloc | apply Kd.V_drewN | apply Kd.V_drew)); exact HO288.out, z9_3, by repeat (first | (with_reducible first | exact HB.out | apply below_alloc | apply pw_below_drewN | apply below_drew1 | refine below_set ?_ GB20.out) | exact HB.out)⟩
  ·rw [if_neg c8] at H
   have c8b0 : ((rd l0 0) == 0) = false := beq_eq_false_iff_ne.mpr c8
   have c8b1 : ((rd l0 0) != 0) = true := bne_iff_ne.mpr c8
   by_cases c11 : (Go.bits .and .u8 (rd l0 0) 128) = 0
   ·rw [if_pos c11] at H
    have c11b0 : ((Go.bits .and .u8 (rd l0 0) 128) == 0) = true := beq_iff_eq.mpr c11
    have c11b1 : ((Go.bits .and .u8 (rd l0 0) 128) != 0) = false := bne_eq_false_iff_eq.mpr c11
    clear c11
    by_cases c12 : 1 ≤ (l0.length : Int)
    rotate_left
    ·rw [if_neg c12] at H
     exact absurd H (by simp)
    rw [if_pos c12] at H
    have c12b0 := eq_true c12
    have c12b1 : decide (1 ≤ (l0.length : Int)) = true := decide_eq_true c12
    clear c12
    obtain ⟨y291, hy291⟩ : ∃ y_ : List Int, y_ = (l0.drop 1) := ⟨_, rfl⟩
    replace H : (some (IntKind.u16.wrap (rd l0 0), y291, none)) = some (r1, r2, r3) := by first | (rw [hy291]; with_reducible exact H) | (have H2_ := (Option.bind_some _ _).symm.trans H; rw [hy291]; with_reducible exact H2_) | (have H2_ := (Option.bind_some _ _).symm.trans H; with_reducible exact H2_) | with_reducible exact H | (rw [hy291]; exact H) | exact H
    have Ny291 := Aside0.mk hy291
    clear hy291
    simp only [Option.some.injEq, Prod.mk.injEq] at H
    obtain ⟨rfl, rfl, rfl⟩ := H
    have p283 : 0 ≤ (0 : Int) := z9_4
    have q283 : 0 < (l0.length : Int) := of_decide_eq_true z9_1
    obtain ⟨ad283, e283, hx283_0⟩ := Kd.at_int (Kd.V_reads' HO0.out).2.2 0 p283 q283
    cases e283
    have qi283 : (0 < l0.length) = True := eq_true z9_4
    (try rw [show ((0 : Int)).toNat = 0 from rfl] at hx283_0)
    (try rw [Addr.add_zero'] at hx283_0)
    replace p283 := eq_true p283
    replace q283 := eq_true q283
    have p289 : 0 ≤ (0 : Int) := z9_4
    have q289 : 0 < (l0.length : Int) := of_decide_eq_true z9_1
    obtain ⟨ad289, e289, hx289_0⟩ := Kd.at_int (Kd.V_reads' HO0.out).2.2 0 p289 q289
    obtain rfl : ad283 = ad289 := (by injection e289)
    have qi289 : (0 < l0.length) = True := eq_true z9_4
    (try rw [show ((0 : Int)).toNat = 0 from rfl] at hx289_0)
    (try rw [Addr.add_zero'] at hx289_0)
    replace p289 := eq_true p289
    replace q289 := eq_true q289
    have p290 : 0 ≤ (0 : Int) := z9_4
    have q290 : 0 < (l0.length : Int) := of_decide_eq_true z9_1
    obtain ⟨ad290, e290, hx290_0⟩ := Kd.at_int (Kd.V_reads' HO0.out).2.2 0 p290 q290
    obtain rfl : ad283 = ad290 := (by injection e290)
    have qi290 : (0 < l0.length) = True := eq_true z9_4
    (try rw [show ((0 : Int)).toNat = 0 from rfl] at hx290_0)
    (try rw [Addr.add_zero'] at hx290_0)
    replace p290 := eq_true p290
    replace q290 := eq_true q290
    have q13 : (1 : Int) ≤ ((l0.length : Int) : Int) := of_decide_eq_true z9_1
    obtain ⟨i013, hi013, _, hsz13, _⟩ := info_parts info5
    have hroom13 : l0.length ≤ c0 := (Kd.V_reads' HO0.out).2.1
    have hC13 : Kd.F (Kd.int .u8) _ _ (some ad283) l0.length l0 := (Kd.V_at (base := w.heap.size) HO0.out).2.2
    have hcut13 := cut_from (P := Try.prog) 22 5 .i64 Try.underlying22 hi013 1 hsz13 (some ad283) l0.length c0 1 z9_4 q13
    have hr13 := Kd.F_cut (m := (1 : Int).toNat) (c := c0) hC13 z9_4 hroom13
    obtain ⟨A13, hA13⟩ : ∃ A1, A1 = (if c0 = (1 : Int).toNat then (some ad283) else ((some ad283) : Option Addr).map (·.add ((1 : Int).toNat * 1))) := ⟨_, rfl⟩
    obtain ⟨c13, hc13⟩ : ∃ c1, c1 = c0 - (1 : Int).toNat := ⟨_, rfl⟩
    have hy13 : y291.length = l0.length - (1 : Int).toNat := (by rw [Ny291.out, List.length_drop] <;> omega)
    rw [show (l0).drop (1 : Int).toNat = y291 from Ny291.out.symm] at hr13
    replace hr13 : Kd.F (Kd.int .u8) _ _ A13 y291.length y291 := (by rw [hA13]; exact hr13)
    rw [← hy13, ← hA13, ← hc13] at hcut13
    have HO295 := Aside0.mk (show Kd.V (Kd.int .u8) 5 _ w.heap.size _ (.slice A13 y291.length c13) y291 from Kd.V_mk (by rw [hy13, hc13]; exact Nat.sub_le_sub_right hroom13 _) hr13)
    have HC295 := Aside0.mk (show y291.length ≤ c13 from by rw [hy13, hc13]; exact Nat.sub_le_sub_right hroom13 _)
    clear hr13 hC13 hroom13 hi013 hsz13 hc13
    have KY13 := Aside0.mk hy13
    have KA13 := Aside0.mk hA13
    clear hy13 hA13
    replace q13 := eq_true q13
    go_enter Try.func91, Try.ntmps91
    go_wp2
    repeat (go_quiet (fail); try go_wp2)
    go_ret3
    exact ⟨_, _, by first | rfl | (simp [errW_none, errW_some] <;> rfl) | (simp [*, errW_none, errW_some] <;> rfl), by (with_reducible repeat (first | apply Kd.V_alloc | apply Kd.V_drewN | apply Kd.V_drew)); exact HO295.out, z9_3, by repeat (first | (with_reducible first | exact HB.out | apply below_alloc | apply pw_below_drewN | apply below_drew1 | refine below_set ?_ GB20.out) | exact HB.out)⟩
   ·rw [if_neg c11] at H
    have c11b0 : ((Go.bits .and .u8 (rd l0 0) 128) == 0) = false := beq_eq_false_iff_ne.mpr c11
    have c11b1 : ((Go.bits .and .u8 (rd l0 0) 128) != 0) = true := bne_iff_ne.mpr c11
    by_cases c14 : (l0.length : Int) < 2
    ·rw [if_pos c14] at H
     have c14b0 : decide ((l0.length : Int) < 2) = true := decide_eq_true c14
     have c14b1 : decide (l0.length < 2) = true := decide_eq_true z9_4
     clear c14
     replace H := Option.bind_eq_some_iff.mp H
     obtain ⟨t296, A150, H⟩ := H
     replace H : (some (0, ([] : List Int), t296)) = some (r1, r2, r3) := H
     have A15 := Aside0.mk A150
     clear A150
     simp only [Option.some.injEq, Prod.mk.injEq] at H
     obtain ⟨rfl, rfl, rfl⟩ := H
     have p283 : 0 ≤ (0 : Int) := z9_4
     have q283 : 0 < (l0.length : Int) := of_decide_eq_true z9_1
     obtain ⟨ad283, e283, hx283_0⟩ := Kd.at_int (Kd.V_reads' HO0.out).2.2 0 p283 q283
     cases e283
     have qi283 : (0 < l0.length) = True := eq_true z9_4
     (try rw [show ((0 : Int)).toNat = 0 from rfl] at hx283_0)
     (try rw [Addr.add_zero'] at hx283_0)
     replace p283 := eq_true p283
     replace q283 := eq_true q283
     have p289 : 0 ≤ (0 : Int) := z9_4
     have q289 : 0 < (l0.length : Int) := of_decide_eq_true z9_1
     obtain ⟨ad289, e289, hx289_0⟩ := Kd.at_int (Kd.V_reads' HO0.out).2.2 0 p289 q289
     obtain rfl : ad283 = ad289 := (by injection e289)
     have qi289 : (0 < l0.length) = True := eq_true z9_4
     (try rw [show ((0 : Int)).toNat = 0 from rfl] at hx289_0)
     (try rw [Addr.add_zero'] at hx289_0)
     replace p289 := eq_true p289
     replace q289 := eq_true q289
     go_enter Try.func91, Try.ntmps91
     go_wp2_with (first | (go_at_call 56; (with_reducible refine (eN.calls (⟨#[105, 110, 118, 97, 108, 105, 100, 32, 103, 108, 121, 112, 104, 32, 118, 97, 114, 105, 97, 116, 105, 111, 110, 32, 112, 111, 105, 110, 116, 115, 32, 110, 117, 109, 98, 101, 114, 115, 32, 40, 69, 79, 70, 41]⟩ : ByteArray) t296 _ A15.out).mono ?_); rintro e w18 ⟨ev16, rfl, he17, hb⟩; have n0_ := Aside0.mk (Kd.V_below z9_2 hb); have n1_ := Aside0.mk (below_step z9_0 hb); clear HO0; clear HB; have HO0 := n0_; have HB := n1_; clear n0_ n1_ hb; (first | (obtain rfl := EV_none he17) | (obtain ⟨te_, pe_, rfl⟩ := EV_some he17) | skip)))
     repeat (go_quiet (first | (go_at_call 56; (with_reducible refine (eN.calls (⟨#[105, 110, 118, 97, 108, 105, 100, 32, 103, 108, 121, 112, 104, 32, 118, 97, 114, 105, 97, 116, 105, 111, 110, 32, 112, 111, 105, 110, 116, 115, 32, 110, 117, 109, 98, 101, 114, 115, 32, 40, 69, 79, 70, 41]⟩ : ByteArray) t296 _ A15.out).mono ?_); rintro e w18 ⟨ev16, rfl, he17, hb⟩; have n0_ := Aside0.mk (Kd.V_below z9_2 hb); have n1_ := Aside0.mk (below_step z9_0 hb); clear HO0; clear HB; have HO0 := n0_; have HB := n1_; clear n0_ n1_; (try clear hb); (try clear hb2); (try clear hk); (try clear hi); (first | (obtain rfl := EV_none he17) | (obtain ⟨te_, pe_, rfl⟩ := EV_some he17) | skip))); try go_wp2_with (first | (go_at_call 56; (with_reducible refine (eN.calls (⟨#[105, 110, 118, 97, 108, 105, 100, 32, 103, 108, 121, 112, 104, 32, 118, 97, 114, 105, 97, 116, 105, 111, 110, 32, 112, 111, 105, 110, 116, 115, 32, 110, 117, 109, 98, 101, 114, 115, 32, 40, 69, 79, 70, 41]⟩ : ByteArray) t296 _ A15.out).mono ?_); rintro e w18 ⟨ev16, rfl, he17, hb⟩; have n0_ := Aside0.mk (Kd.V_below z9_2 hb); have n1_ := Aside0.mk (below_step z9_0 hb); clear HO0; clear HB; have HO0 := n0_; have HB := n1_; clear n0_ n1_; (try clear hb); (try clear hb2); (try clear hk); (try clear hi); (first | (obtain rfl := EV_none he17) | (obtain ⟨te_, pe_, rfl⟩ := EV_some he17) | skip))))
     go_ret3
     exact ⟨_, _, by first | rfl | (simp [errW_none, errW_some] <;> rfl) | (simp [*, errW_none, errW_some] <;> rfl), Kd.V_nil _ _ _ _ _, z9_3, by repeat (first | (with_reducible first | exact HB.out | apply below_alloc | apply pw_below_drewN | apply below_drew1 | refine below_set ?_ GB20.out) | exact HB.out)⟩
    ·rw [if_neg c14] at H
     have c14b0 : decide ((l0.length : Int) < 2) = false := decide_eq_false c14
     have c14b1 : decide (l0.length < 2) = false := decide_eq_false z9_4
     clear c14
     by_cases c19 : 1 < (l0.length : Int)
     rotate_left
     ·rw [if_neg c19] at H
      exact absurd H (by simp)
     rw [if_pos c19] at H
     have c19b0 : decide (1 < (l0.length : Int)) = true := decide_eq_true c19
     have c19b1 : decide (1 < l0.length) = true := decide_eq_true z9_4
     clear c19
     by_cases c20 : 2 ≤ (l0.length : Int)
     rotate_left
     ·rw [if_neg c20] at H
      exact absurd H (by simp)
     rw [if_pos c20] at H
     have c20b0 := eq_true c20
     have c20b1 : decide (2 ≤ (l0.length : Int)) = true := decide_eq_true c20
     clear c20
     obtain ⟨y299, hy299⟩ : ∃ y_ : List Int, y_ = (l0.drop 2) := ⟨_, rfl⟩
     replace H : (some (Go.bits .or .u16 (IntKind.u16.wrap ((IntKind.u16.wrap (Go.bits .andNot .u8 (rd l0 0) 128)) * 256)) (IntKind.u16.wrap (rd l0 1)), y299, none)) = some (r1, r2, r3) := by first | (rw [hy299]; with_reducible exact H) | (have H2_ := (Option.bind_some _ _).symm.trans H; rw [hy299]; with_reducible exact H2_) | (have H2_ := (Option.bind_some _ _).symm.trans H; with_reducible exact H2_) | with_reducible exact H | (rw [hy299]; exact H) | exact H
     have Ny299 := Aside0.mk hy299
     clear hy299
     simp only [Option.some.injEq, Prod.mk.injEq] at H
     obtain ⟨rfl, rfl, rfl⟩ := H
     have p283 : 0 ≤ (0 : Int) := z9_4
     have q283 : 0 < (l0.length : Int) := of_decide_eq_true z9_1
     obtain ⟨ad283, e283, hx283_0⟩ := Kd.at_int (Kd.V_reads' HO0.out).2.2 0 p283 q283
     cases e283
     have qi283 : (0 < l0.length) = True := eq_true z9_4
     (try rw [show ((0 : Int)).toNat = 0 from rfl] at hx283_0)
     (try rw [Addr.add_zero'] at hx283_0)
     replace p283 := eq_true p283
     replace q283 := eq_true q283
     have p289 : 0 ≤ (0 : Int) := z9_4
     have q289 : 0 < (l0.length : Int) := of_decide_eq_true z9_1
     obtain ⟨ad289, e289, hx289_0⟩ := Kd.at_int (Kd.V_reads' HO0.out).2.2 0 p289 q289
     obtain rfl : ad283 = ad289 := (by injection e289)
     have qi289 : (0 < l0.length) = True := eq_true z9_4
     (try rw [show ((0 : Int)).toNat = 0 from rfl] at hx289_0)
     (try rw [Addr.add_zero'] at hx289_0)
     replace p289 := eq_true p289
     replace q289 := eq_true q289
     have p297 : 0 ≤ (0 : Int) := z9_4
     have q297 : 0 < (l0.length : Int) := of_decide_eq_true z9_1
     obtain ⟨ad297, e297, hx297_0⟩ := Kd.at_int (Kd.V_reads' HO0.out).2.2 0 p297 q297
     obtain rfl : ad283 = ad297 := (by injection e297)
     have qi297 : (0 < l0.length) = True := eq_true z9_4
     (try rw [show ((0 : Int)).toNat = 0 from rfl] at hx297_0)
     (try rw [Addr.add_zero'] at hx297_0)
     replace p297 := eq_true p297
     replace q297 := eq_true q297
     have p298 : 0 ≤ (1 : Int) := z9_4
     have q298 : 1 < (l0.length : Int) := of_decide_eq_true z9_1
     obtain ⟨ad298, e298, hx298_0⟩ := Kd.at_int (Kd.V_reads' HO0.out).2.2 1 p298 q298
     obtain rfl : ad283 = ad298 := (by injection e298)
     (try simp only [show (1 : Int).toNat = 1 from rfl, Nat.reduceMul, Nat.reduceEqDiff, Go.Addr.add, ↓reduceIte] at hx298_0)
     have qi298 : (1 < l0.length) = True := eq_true z9_4
     (try rw [show ((1 : Int)).toNat = 1 from rfl] at hx298_0)
     replace p298 := eq_true p298
     replace q298 := eq_true q298
     have q21 : (2 : Int) ≤ ((l0.length : Int) : Int) := of_decide_eq_true z9_1
     obtain ⟨i021, hi021, _, hsz21, _⟩ := info_parts info5
     have hroom21 : l0.length ≤ c0 := (Kd.V_reads' HO0.out).2.1
     have hC21 : Kd.F (Kd.int .u8) _ _ (some ad283) l0.length l0 := (Kd.V_at (base := w.heap.size) HO0.out).2.2
     have hcut21 := cut_from (P := Try.prog) 22 5 .i64 Try.underlying22 hi021 1 hsz21 (some ad283) l0.length c0 2 z9_4 q21
     have hr21 := Kd.F_cut (m := (2 : Int).toNat) (c := c0) hC21 z9_4 hroom21
     obtain ⟨A21, hA21⟩ : ∃ A1, A1 = (if c0 = (2 : Int).toNat then (some ad283) else ((some ad283) : Option Addr).map (·.add ((2 : Int).toNat * 1))) := ⟨_, rfl⟩
     obtain ⟨c21, hc21⟩ : ∃ c1, c1 = c0 - (2 : Int).toNat := ⟨_, rfl⟩
     have hy21 : y299.length = l0.length - (2 : Int).toNat := (by rw [Ny299.out, List.length_drop] <;> omega)
     rw [show (l0).drop (2 : Int).toNat = y299 from Ny299.out.symm] at hr21
     replace hr21 : Kd.F (Kd.int .u8) _ _ A21 y299.length y299 := (by rw [hA21]; exact hr21)
     rw [← hy21, ← hA21, ← hc21] at hcut21
     have HO303 := Aside0.mk (show Kd.V (Kd.int .u8) 5 _ w.heap.size _ (.slice A21 y299.length c21) y299 from Kd.V_mk (by rw [hy21, hc21]; exact Nat.sub_le_sub_right hroom21 _) hr21)
     have HC303 := Aside0.mk (show y299.length ≤ c21 from by rw [hy21, hc21]; exact Nat.sub_le_sub_right hroom21 _)
     clear hr21 hC21 hroom21 hi021 hsz21 hc21
     have KY21 := Aside0.mk hy21
     have KA21 := Aside0.mk hA21
     clear hy21 hA21
     replace q21 := eq_true q21
     go_enter Try.func91, Try.ntmps91
     go_wp2
     repeat (go_quiet (fail); try go_wp2)
     go_ret3
     exact ⟨_, _, by first | rfl | (simp [errW_none, errW_some] <;> rfl) | (simp [*, errW_none, errW_some] <;> rfl), by (with_reducible repeat (first | apply Kd.V_alloc | apply Kd.V_drewN | apply Kd.V_drew)); exact HO303.out, z9_3, by repeat (first | (with_reducible first | exact HB.out | apply below_alloc | apply pw_below_drewN | apply below_drew1 | refine below_set ?_ GB20.out) | exact HB.out)⟩

def tPU.l0 : Nat → List Int → List Int → Int → Int → Option (List Int × Option Int)
 | 0, _, _, _, _ => none
 | k + 1, x0, x7, x19, x20 => if x20 < x19 then (if 0 ≤ (wrap64 (2 * x20)) then (if (wrap64 (2 * x20)) ≤ (x0.length : Int) then ((bU.f (x0.drop ((wrap64 (2 * x20)) : Int).toNat)).bind fun t309 => (if 0 ≤ x20 then (if x20 < (x7.length : Int) then (tPU.l0 k x0 (x7.set (x20 : Int).toNat t309) x19 (wrap64 (x20 + 1))) else (none)) else (none))) else (none)) else (none)) else (some (x7, none))
def tPU.f (k : Nat) (l0 : List Int) (a1 : Int) : Option (List Int × Option Int) := if (l0.length : Int) < (wrap64 (2 * a1)) then ((eN.f (⟨#[69, 79, 70, 58, 32, 101, 120, 112, 101, 99, 116, 101, 100, 32, 108, 101, 110, 103, 116, 104, 58, 32, 37, 100, 44, 32, 103, 111, 116, 32, 37, 100]⟩ : ByteArray)).bind fun t304 => (some (([] : List Int), t304))) else (if 0 ≤ a1 then (if (a1 : Int).toNat ≤ 140737488355328 then ((some (List.replicate (a1 : Int).toNat 0 : List Int)).bind fun y305 => (tPU.l0 k l0 y305 (y305.length : Int) 0)) else (none)) else (none))
theorem tPU.mono_l : ∀ k, (∀ y0 y1 y2 y3, LeO (tPU.l0 k y0 y1 y2 y3) (tPU.l0 (k + 1) y0 y1 y2 y3))
 | 0 => fun _ _ _ _ r h => by simp [tPU.l0] at h
 | k + 1 => by
  have ih0 := tPU.mono_l k
  ·intro y0 y1 y2 y3
   unfold tPU.l0
   repeat' first
   | (with_reducible exact ih0 _ _ _ _)
   | (with_reducible exact LeO.refl _)
   | (with_reducible exact LeO.none _)
   | (with_reducible refine LeO.ite ?_ ?_)
   | (with_reducible refine LeO.bind ?_ (fun _ => ?_))
theorem tPU.mono : ∀ a0 a1 k, LeO (tPU.f k a0 a1) (tPU.f (k + 1) a0 a1) := by
 intro a0 a1 k
 have ih0 := tPU.mono_l k
 unfold tPU.f
 repeat' first
   | (with_reducible exact ih0 _ _ _ _)
   | (with_reducible exact LeO.refl _)
   | (with_reducible exact LeO.none _)
   | (with_reducible refine LeO.ite ?_ ?_)
   | (with_reducible refine LeO.bind ?_ (fun _ => ?_))
def tPU.T8 : Bool × List (List Nat × List Nat) := (true, [([], []), ([], []), ([], []), ([], []), ([], []), ([4], [4]), ([3, 5], [3, 5]), ([2, 6], [2, 6]), ([0, 1, 0, 1, 2, 3, 4, 5, 6, 7], [0, 1]), ([8, 7, 7, 0, 1, 2, 3, 4, 5, 6, 7], [7, 8])])
def tPU.B8 : List Nat := [0, 0, 0, 0, 0, 16, 56, 124, 255, 511]
theorem tPU.tab8 : rtab .any (opsOf Try.f92 8) = tPU.T8 := by kernel_rfl
theorem tPU.bits8 : waitsOk tPU.T8.2 tPU.B8 = true := by kernel_rfl
set_option maxHeartbeats 8000000 in
set_option maxRecDepth 100000 in
theorem tPU.calls (k : Nat) (A0 : Option Addr) (c0 : Nat) (l0 : List Int) (a1 : Int) (r1 : List Int) (r2 : Option Int) (w : World) (hr0 : Kd.C (Kd.int .u8) w A0 l0.length l0) (hc0 : l0.length ≤ c0) (h : tPU.f k l0 a1 = some (r1, r2)) :
  Calls Try.prog 92 #[.slice A0 l0.length c0, .int .i64 a1] w fun e w' => ∃ v0_ : Value, ∃ e1_ : Value, e = .returned (.tuple #[v0_, e1_]) ∧ Kd.R (Kd.int .u16) 35 w' w.heap.size (fun _ => True) v0_ r1 ∧ EV e1_ r2 ∧ Below w.heap.size w w' := by
 have HR0 := Aside0.mk hr0
 have HC0 := Aside0.mk hc0
 clear hr0 hc0
 have HB := Aside0.mk (Below.refl w.heap.size w)
 have H : (if (l0.length : Int) < (wrap64 (2 * a1)) then ((eN.f (⟨#[69, 79, 70, 58, 32, 101, 120, 112, 101, 99, 116, 101, 100, 32, 108, 101, 110, 103, 116, 104, 58, 32, 37, 100, 44, 32, 103, 111, 116, 32, 37, 100]⟩ : ByteArray)).bind fun t304 => (some (([] : List Int), t304))) else (if 0 ≤ a1 then (if (a1 : Int).toNat ≤ 140737488355328 then ((some (List.replicate (a1 : Int).toNat 0 : List Int)).bind fun y305 => (tPU.l0 k l0 y305 (y305.length : Int) 0)) else (none)) else (none))) = some (r1, r2) := h
 clear h
 by_cases c3 : (l0.length : Int) < (wrap64 (2 * a1))
 ·rw [if_pos c3] at H
  have c3b0 : decide ((l0.length : Int) < (wrap64 (2 * a1))) = true := decide_eq_true c3
  clear c3
  replace H := Option.bind_eq_some_iff.mp H
  obtain ⟨t304, A40, H⟩ := H
  replace H : (some (([] : List Int), t304)) = some (r1, r2) := H
  have A4 := Aside0.mk A40
  clear A40
  simp only [Option.some.injEq, Prod.mk.injEq] at H
  obtain ⟨rfl, rfl⟩ := H
  go_enter Try.func92, Try.ntmps92
  go_wp2_with (first | ((with_reducible refine gate_callee (f := 56) rfl ?_); refine goesL_ (some 15) rfl rfl Try.func56 (by kernel_rfl) rfl #[.string (⟨#[69, 79, 70, 58, 32, 101, 120, 112, 101, 99, 116, 101, 100, 32, 108, 101, 110, 103, 116, 104, 58, 32, 37, 100, 44, 32, 103, 111, 116, 32, 37, 100]⟩ : ByteArray)] rfl (by (try simp only [List.map_toArray, List.map_cons, List.map_nil]); first | done | rfl | (simp only [List.length_drop, List.length_take]; rfl)) ?_; (with_reducible refine (eN.calls (⟨#[69, 79, 70, 58, 32, 101, 120, 112, 101, 99, 116, 101, 100, 32, 108, 101, 110, 103, 116, 104, 58, 32, 37, 100, 44, 32, 103, 111, 116, 32, 37, 100]⟩ : ByteArray) t304 _ A4.out).mono ?_); rintro e w7 ⟨ev5, rfl, he6, hb⟩; refine ⟨_, rfl, ?_⟩; have n0_ := Aside0.mk (below_step z9_0 hb); clear HB; have HB := n0_; clear n0_ hb; (first | (obtain rfl := EV_none he6) | (obtain ⟨te_, pe_, rfl⟩ := EV_some he6) | skip)))
  go_ret2
  exact ⟨_, _, by first | rfl | (simp [errW_none, errW_some] <;> rfl) | (simp [*, errW_none, errW_some] <;> rfl), by first | exact Kd.R_nil _ _ _ _ _ | exact Kd.N_nil _ _ _ _ _ | exact Kd.V_nil _ _ _ _ _ | exact Kd.Q_nil _ _ _ _ _ | exact Kd.S_nil _ _ _ _ _, z9_3, by repeat (first | (with_reducible first | exact HB.out | apply below_alloc | apply pw_below_drewN | apply below_drew1 | refine below_set ?_ GB20.out) | exact HB.out)⟩
 ·rw [if_neg c3] at H
  have c3b0 : decide ((l0.length : Int) < (wrap64 (2 * a1))) = false := decide_eq_false c3
  clear c3
  by_cases c8 : 0 ≤ a1
  rotate_left
  ·rw [if_neg c8] at H
   exact absurd H (by simp)
  rw [if_pos c8] at H
  have c8b0 := eq_true c8
  have c8b1 : decide (0 ≤ a1) = true := decide_eq_true c8
  clear c8
  by_cases c9 : (a1 : Int).toNat ≤ 140737488355328
  rotate_left
  ·rw [if_neg c9] at H
   exact absurd H (by simp)
  rw [if_pos c9] at H
  have c9b0 := eq_true c9
  have c9b1 : decide ((a1 : Int).toNat ≤ 140737488355328) = true := decide_eq_true c9
  clear c9
  obtain ⟨y305, hy305⟩ : ∃ y_ : List Int, y_ = (List.replicate (a1 : Int).toNat 0) := ⟨_, rfl⟩
  replace H : (tPU.l0 k l0 y305 (y305.length : Int) 0) = some (r1, r2) := by first | (rw [hy305]; with_reducible exact H) | (have H2_ := (Option.bind_some _ _).symm.trans H; rw [hy305]; with_reducible exact H2_) | (have H2_ := (Option.bind_some _ _).symm.trans H; with_reducible exact H2_) | with_reducible exact H | (rw [hy305]; exact H) | exact H
  have Ny305 := Aside0.mk hy305
  clear hy305
  have H' := Aside0.mk H
  clear H
  go_enter Try.func92, Try.ntmps92
  go_wp2_with (first | ((with_reducible refine gate_dst (N := 17) rfl ?_); refine Kd.R_make (Kd.int .u16) _ 35 rfl (N := 17) rfl 34 _ _ rfl a1 rfl rfl Try.underlying34 (.int .u16 0) 2 info35 rfl (by decide) z9_4 0 (ok := fun _ => True) (okp := fun _ => True) rfl (fun _ hk => hk) trivial (of_decide_eq_true z9_1) (Nat.le_trans (Nat.mul_le_mul_right _ (of_decide_eq_true z9_1 : a1.toNat ≤ 140737488355328)) z9_4) (Below.refl _ _) (Nat.le_refl _) ?_; intro v306 w10 ho11 hb hg_ hnew_; clear hg_ hnew_; (first | rw [← Ny305.out] at ho11 | (simp only [Int.reduceToNat] at ho11; rw [← Ny305.out] at ho11)); have n0_ := Aside0.mk (Kd.R_lower ho11 (below_size z9_0)); have n1_ := Aside0.mk (below_step z9_0 hb); clear HB; have HO307 := n0_; have HB := n1_; clear n0_ n1_; clear hb ho11; obtain ⟨Ao12, co12, eo12⟩ := Kd.R_slice HO307.out; subst eo12))
  go_loopg [20] k (fun kq v20 w' => ∃ (x7_1 : List Int) (x20_1 : Int), v20 = .int .i64 x20_1 ∧ Aside0 (tPU.l0 kq l0 x7_1 (y305.length : Int) x20_1 = some (r1, r2)) ∧ Aside0 (kq ≤ k) ∧ Aside0 (Kd.R (Kd.int .u16) 35 w' w.heap.size (fun _ => True) (.slice Ao12 y305.length co12) x7_1) ∧ Aside0 (Below w.heap.size w w'))
  case atStart => exact ⟨(y305), (0), (by first | rfl | (simp; done) | (simp [*]; done)), H', ⟨Nat.le_refl _⟩, ⟨by (with_reducible repeat (first | apply Kd.R_alloc | apply Kd.R_drewN | apply Kd.R_drew)); exact HO307.out⟩, ⟨z9_0⟩⟩
  case round =>
   clear H'
   clear c3b0 c8b0 c8b1 c9b0 c9b1
   obtain ⟨x7_1, x20_1, rfl, HA, HK1, HO_7, HB⟩ := hrel
   have hl7_1 := (Kd.R_reads' HO_7.out).1
   rw [hl7_1] at HO_7
   (try simp only [hl7_1])
   cases gk with
   | zero => exact absurd HA.out (by simp [tPU.l0])
   | succ k1 =>
    have H := HA.out
    clear HA
    simp only [tPU.l0] at H
    by_cases c13 : x20_1 < (y305.length : Int)
    ·rw [if_pos c13] at H
     have c13b0 : decide (x20_1 < (y305.length : Int)) = true := decide_eq_true c13
     (try simp only [hl7_1] at c13b0)
     clear c13
     obtain ⟨ji14, hji14⟩ : ∃ j_ : Int, (wrap64 (2 * x20_1)) = j_ := ⟨_, rfl⟩
     replace H : (if 0 ≤ (ji14) then (if (ji14) ≤ (l0.length : Int) then ((bU.f (l0.drop ((ji14) : Int).toNat)).bind fun t309 => (if 0 ≤ x20_1 then (if x20_1 < (x7_1.length : Int) then (tPU.l0 k1 l0 (x7_1.set (x20_1 : Int).toNat t309) (y305.length : Int) (wrap64 (x20_1 + 1))) else (none)) else (none))) else (none)) else (none)) = some (r1, r2) := by first | (rw [hji14] at H; exact H) | (simp only [hji14] at H ⊢; exact H)
     have hji14w : (IntKind.i64.wrap (2 * x20_1)) = ji14 := (i64_w _).trans hji14
     by_cases c15 : 0 ≤ (ji14)
     rotate_left
     ·rw [if_neg c15] at H
      exact absurd H (by simp)
     rw [if_pos c15] at H
     have c15b0 := eq_true c15
     have c15b1 : decide (0 ≤ (ji14)) = true := decide_eq_true c15
     clear c15
     by_cases c16 : (ji14) ≤ (l0.length : Int)
     rotate_left
     ·rw [if_neg c16] at H
      exact absurd H (by simp)
     rw [if_pos c16] at H
     have c16b0 := eq_true c16
     have c16b1 : decide ((ji14) ≤ (l0.length : Int)) = true := decide_eq_true c16
     clear c16
     replace H := Option.bind_eq_some_iff.mp H
     obtain ⟨t309, A170, H⟩ := H
     replace H : (if 0 ≤ x20_1 then (if x20_1 < (x7_1.length : Int) then (tPU.l0 k1 l0 (x7_1.set (x20_1 : Int).toNat t309) (y305.length : Int) (wrap64 (x20_1 + 1))) else (none)) else (none)) = some (r1, r2) := H
     have A17 := Aside0.mk A170
     clear A170
     by_cases c18 : 0 ≤ x20_1
     rotate_left
     ·rw [if_neg c18] at H
      exact absurd H (by simp)
     rw [if_pos c18] at H
     have c18b0 : decide (0 ≤ x20_1) = true := decide_eq_true c18
     clear c18
     by_cases c19 : x20_1 < (x7_1.length : Int)
     rotate_left
     ·rw [if_neg c19] at H
      exact absurd H (by simp)
     rw [if_pos c19] at H
     have c19b0 : decide (x20_1 < (x7_1.length : Int)) = true := decide_eq_true c19
     (try simp only [hl7_1] at c19b0)
     clear c19
     obtain ⟨y310, hy310⟩ : ∃ y_ : List Int, y_ = (x7_1.set (x20_1 : Int).toNat t309) := ⟨_, rfl⟩
     replace H : (tPU.l0 k1 l0 y310 (y305.length : Int) (wrap64 (x20_1 + 1))) = some (r1, r2) := by first | (rw [hy310]; with_reducible exact H) | (have H2_ := (Option.bind_some _ _).symm.trans H; rw [hy310]; with_reducible exact H2_) | (have H2_ := (Option.bind_some _ _).symm.trans H; with_reducible exact H2_) | with_reducible exact H | (rw [hy310]; exact H) | exact H
     have Ny310 := Aside0.mk hy310
     clear hy310
     have H' := Aside0.mk H
     clear H
     try go_wp2
     have n0_ := Aside0.mk (Kd.R_drew HO_7.out)
     have n1_ := Aside0.mk (below_drew1 HB.out)
     clear HO_7
     clear HB
     have HO_7 := n0_
     have HB := n1_
     clear n0_ n1_
     obtain ⟨i022, hi022, _, hsz22, _⟩ := info_parts info5
     obtain ⟨A22, hcut22, hA22, hC22⟩ := print_drop_of (P := Try.prog) (Value.int .u8) 0 22 5 .i64 Try.underlying22 hi022 hsz22 A0 c0 l0 (ji14) (of_decide_eq_true z9_1) (of_decide_eq_true z9_1) HC0.out
     have HR308 := Aside0.mk (Kd.C_of_reads (h1 := fun _ => rfl) (hA22 _ (Kd.reads_of_C HR0.out)))
     have HC308 := Aside0.mk hC22
     clear hA22 hC22 hi022 hsz22
     refine start_ (n := 10) (S := fun w' => True) (ds := [9]) #[ff,ff,ff,ff,ff,ff,ff,ff,ff,ff] (by kernel_rfl) rfl rfl trivial (fun hHeld => ?_); refine with_tabW tPU.tab8 tPU.bits8 (fun HT_ HW_ => ?_)
     generalize wr.drew = w21 at HO_7 HB HR308 hHeld ⊢
     refine prx9 0 23 #[tt,ff,ff,ff,ff,ff,ff,ff,ff,ff] ?_
     refine prx9 1 24 #[tt,tt,ff,ff,ff,ff,ff,ff,ff,ff] ?_
     refine prx9 2 25 #[tt,tt,tt,ff,ff,ff,ff,ff,ff,ff] ?_
     refine prx9 3 26 #[tt,tt,tt,tt,ff,ff,ff,ff,ff,ff] ?_
     refine prx9 4 27 #[tt,tt,tt,tt,tt,ff,ff,ff,ff,ff] ?_
     refine prx9 5 28 #[tt,tt,tt,tt,tt,tt,ff,ff,ff,ff] ?_
     refine prx9 6 29 #[tt,tt,tt,tt,tt,tt,tt,ff,ff,ff] ?_
     refine one_ (i := 7) (N := some 30) #[true, true, true, true, true, true, true, true, false, false] rfl rfl (one_of HT_.out (by kernel_rfl)) (by decide) (fun K hK => ?_)
     refine goes_ Try.func57 (by kernel_rfl) rfl #[.agg #[], .slice A22 (l0.drop ((ji14) : Int).toNat).length (c0 - (ji14).toNat)] (by rfl) rfl rfl (by (try simp only [List.map_toArray, List.map_cons, List.map_nil]); first | done | (rw [show (l0.drop ((ji14) : Int).toNat).length = (l0.length - (ji14).toNat) from List.length_drop] <;> rfl) | (simp only [hji14]; rfl) | rfl | (simp only [List.length_drop, List.length_take]; rfl)) ?_
     with_reducible refine (bU.calls _ _ (l0.drop ((ji14) : Int).toNat) t309 _ ?side1 ?side2 A17.out).mono ?_
     (case side1 => repeat (first | exact (Kd.C_below HR308.out HB.out) | (with_reducible refine Kd.C_alloc ?_ _) | (with_reducible refine Kd.C_drewN ?_ _) | (with_reducible refine Kd.C_drew ?_)))
     (case side2 => exact HC308.out)
     rintro e w23 ⟨rfl, hb⟩
     refine ⟨_, rfl, ?_⟩
     have n0_ := Aside0.mk (Kd.R_below (by (with_reducible repeat (first | apply Kd.R_alloc | apply Kd.R_drewN | apply Kd.R_drew)); exact HO_7.out) hb)
     have n1_ := Aside0.mk (below_step z9_0 hb)
     clear HO_7
     clear HB
     have HO_7 := n0_
     have HB := n1_
     clear n0_ n1_
     clear hb
     have p20 : 0 ≤ (x20_1 : Int) := of_decide_eq_true z9_1
     have q20 : (x20_1 : Int) < ((x7_1.length : Int) : Int) := of_decide_eq_true z9_1
     obtain ⟨go20, co20, eo20, gb20, gl20, cl20, HG20⟩ := Kd.R_form HO_7.out z9_4
     (first | cases eo20 | (injection eo20 with ea_ en_ ec_; (first | subst ea_ | (injection ea_ with ea_; subst ea_)); subst ec_; clear en_))
     have GB20 := Aside0.mk gb20
     have GG20 := Aside0.mk HG20
     clear gb20 gl20 HG20
     obtain ⟨hx20_0, hf20_0⟩ := Kd.R_celln 0 HO_7.out (x20_1 : Int) p20 q20
     replace p20 := eq_true p20
     replace q20 := eq_true q20
     have HP24 := Kd.R_putn HO_7.out (x20_1 : Int) t309
     rw [← Ny310.out] at HP24
     have HQ24 := Aside0.mk HP24
     clear HP24
     refine hK.out _ _ trivial (fun hHeld => ?_)
     clear hK K
     refine norm_ (a' := ?_) ?_ ?_
     rotate_left
     ·show Act.put _ (some 30) _ = _
      simp only [Act.put, L1_, L2_, L3_, i64_w, i32_w]
      rfl
     refine prx9 8 31 #[true, true, true, true, true, true, true, true, true, false] ?_
     refine last_ (i := 9) (N := none) #[true, true, true, true, true, true, true, true, true, true] rfl rfl (one_of HT_.out (by kernel_rfl)) (by decide) (fun K hK => ?_)
     refine skip_ (w1 := ?_) (by rfl) rfl ?_ ?_
     rotate_left
     ·go_simp
      rfl
     refine hK.out _ _ ?_
     clear hK K
     refine done_ (done_of HT_.out (by kernel_rfl)) ?_
     try go_wp2
     (try simp only [← hl7_1])
     go_roundg k1
     case measure => have := HK1.out; omega
     case rel => exact ⟨(y310), (wrap64 (x20_1 + 1)), (by first | rfl | (simp; done) | (simp [*]; done)), H', ⟨by have := HK1.out; omega⟩, ⟨by (try simp only [hl7_1]); (with_reducible repeat (first | apply Kd.R_alloc | apply Kd.R_drewN | apply Kd.R_drew)); exact HQ24.out⟩, ⟨z9_0⟩⟩
    ·rw [if_neg c13] at H
     have c13b0 : decide (x20_1 < (y305.length : Int)) = false := decide_eq_false c13
     (try simp only [hl7_1] at c13b0)
     clear c13
     simp only [Option.some.injEq, Prod.mk.injEq] at H
     obtain ⟨rfl, rfl⟩ := H
     go_wp2
     go_ret2
     exact ⟨_, _, by first | rfl | (simp [errW_none, errW_some] <;> rfl) | (simp [*, errW_none, errW_some] <;> rfl), by (with_reducible repeat (first | apply Kd.R_alloc | apply Kd.R_drewN | apply Kd.R_drew)); exact HO_7.out, z9_3, by repeat (first | (with_reducible first | exact HB.out | apply below_alloc | apply pw_below_drewN | apply below_drew1 | refine below_set ?_ GB20.out) | exact HB.out)⟩

end Go.Proofs.Ytchkmmbedgolbaa.PFnTuplesOf

