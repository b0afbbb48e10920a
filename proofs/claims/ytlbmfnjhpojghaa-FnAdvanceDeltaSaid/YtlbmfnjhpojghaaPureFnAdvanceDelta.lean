/- The law FnAdvanceDelta holds for every store, every map and every glyph: what the package tells of a glyph's advance is, to within the law's own bound, the sum of the item's numbers to which the map leads, each as much as its region says; 0 where there is no such item. Condition: none (the statement's own bounds on sizes lie in the law). -/
import Derived.Lib.IndexLaws
import Derived.Laws.BitsLemmas
import Derived.Laws.FloatArith
import Derived.Test.YtlbmfnjhpojghaaPFnAdvanceDeltax
namespace Go.Proofs.Ytlbmfnjhpojghaa.Flt
open Ieee
abbrev P2 (e : Int) : Rat := (2 : Rat) ^ e
theorem P2_pos (e : Int) : 0 < P2 e := Rat.zpow_pos (by decide)
theorem P2_add (a b : Int) : P2 (a + b) = P2 a * P2 b := Rat.zpow_add (by decide) a b
theorem P2_nat (n : Nat) : P2 (n : Int) = ((2 ^ n : Nat) : Rat) := by
  unfold P2
  rw [Rat.zpow_natCast]
  induction n with
  | zero => rfl
  | succ n ih => rw [Rat.pow_succ, ih, Nat.pow_succ, Rat.natCast_mul]; rfl
theorem P2_le {a b : Int} (h : a ≤ b) : P2 a ≤ P2 b := by
  obtain ⟨n, hn⟩ := Int.eq_ofNat_of_zero_le (show 0 ≤ b - a by omega)
  have e : b = a + (n : Int) := by omega
  rw [e, P2_add, P2_nat]
  have h1 : ((1 : Nat) : Rat) ≤ ((2 ^ n : Nat) : Rat) := Rat.natCast_le_natCast.2 (Nat.one_le_pow _ _ (by decide))
  have h2 := Rat.mul_le_mul_of_nonneg_left h1 (Rat.le_of_lt (P2_pos a))
  have h3 : P2 a * ((1 : Nat) : Rat) = P2 a := by show P2 a * 1 = P2 a; grind
  rw [h3] at h2
  exact h2
theorem P2_lt {a b : Int} (h : P2 a < P2 b) : a < b := by
  rcases Int.lt_or_le a b with h' | h'
  · exact h'
  · have := P2_le h'
    grind
theorem P2_half (a : Int) : P2 (a - 1) + P2 (a - 1) = P2 a := by
  have h := P2_add (a - 1) 1
  rw [show a - 1 + 1 = a by omega] at h
  have e : P2 1 = 2 := by decide +kernel
  rw [h, e]
  grind
theorem P2_inv (a : Int) : P2 a * P2 (-a) = 1 := by
  rw [← P2_add, show a + -a = 0 by omega]
  rfl
/-- A cut to the nearest is off by half a unit at the most. -/
theorem cut_near (neg : Bool) (n d : Nat) (hn : n ≠ 0) : 2 * (Toward.even.cut neg n d * 2 ^ d) ≤ 2 * n + 2 ^ d ∧ 2 * n ≤ 2 * (Toward.even.cut neg n d * 2 ^ d) + 2 ^ d ∧ (2 ^ d ∣ n → Toward.even.cut neg n d * 2 ^ d = n) ∧ (∀ c, n < 2 ^ d * c → Toward.even.cut neg n d ≤ c) := by
  have hlog : n < 2 ^ (n.log2 + 1) := Nat.lt_log2_self
  rcases Nat.lt_or_ge (n.log2 + 2) d with hd | hd
  · have hm : min d (n.log2 + 2) = n.log2 + 2 := Nat.min_eq_right (by omega)
    have hg : 2 * n < 2 ^ (n.log2 + 2) := by rw [Nat.pow_succ]; omega
    have hle : 2 ^ (n.log2 + 2) ≤ 2 ^ d := Nat.pow_le_pow_right (by decide) (by omega)
    have hc : Toward.even.cut neg n d = 0 := by
      unfold Toward.cut
      simp only [hm, Nat.shiftLeft_eq, Nat.one_mul]
      have e1 : n / 2 ^ (n.log2 + 2) = 0 := Nat.div_eq_of_lt (by omega)
      have e2 : n % 2 ^ (n.log2 + 2) = n := Nat.mod_eq_of_lt (by omega)
      rw [e1, e2, decide_eq_false (by omega), show (2 ^ (n.log2 + 2) == 2 * n) = false from beq_eq_false_iff_ne.2 (by omega)]
      rfl
    rw [hc]
    refine ⟨by omega, by omega, fun h => ?_, fun c _ => by omega⟩
    obtain ⟨q, hq⟩ := h
    have : q ≠ 0 := by rintro rfl; omega
    have : 2 ^ d * 1 ≤ 2 ^ d * q := Nat.mul_le_mul_left _ (by omega)
    omega
  · have hm : min d (n.log2 + 2) = d := Nat.min_eq_left (by omega)
    have hpos : 0 < 2 ^ d := Nat.two_pow_pos d
    have hdm := Nat.div_add_mod n (2 ^ d)
    have hlt := Nat.mod_lt n hpos
    unfold Toward.cut
    simp only [hm, Nat.shiftLeft_eq, Nat.one_mul]
    generalize n / 2 ^ d = low at *
    have hdvd : 2 ^ d ∣ n → n % 2 ^ d = 0 := Nat.mod_eq_zero_of_dvd
    generalize n % 2 ^ d = rest at *
    have hcap : ∀ c, n < 2 ^ d * c → low + 1 ≤ c := by
      intro c hc
      rcases Nat.lt_or_ge low c with h | h
      · omega
      · have := Nat.mul_le_mul_left (2 ^ d) h
        omega
    generalize 2 ^ d = G at *
    have hcm : low * G = G * low := Nat.mul_comm ..
    by_cases hmore : (decide (G < 2 * rest) || (G == 2 * rest && low % 2 == 1)) = true
    · rw [hmore]
      have h2 : G ≤ 2 * rest := by
        simp only [Bool.or_eq_true, decide_eq_true_eq, Bool.and_eq_true, beq_iff_eq] at hmore
        omega
      have e : (low + true.toNat) * G = G * low + G := by rw [show low + true.toNat = low + 1 from rfl, Nat.add_mul, hcm]; omega
      rw [e]
      refine ⟨by omega, by omega, fun h => ?_, fun c hc => ?_⟩
      · have := hdvd h; omega
      · have := hcap c hc
        show low + 1 ≤ c
        exact this
    · rw [Bool.not_eq_true] at hmore
      rw [hmore]
      have h2 : 2 * rest ≤ G := by
        simp only [Bool.or_eq_false_iff, decide_eq_false_iff_not] at hmore
        omega
      have e : (low + false.toNat) * G = G * low := by rw [show low + false.toNat = low from rfl, hcm]
      rw [e]
      refine ⟨by omega, by omega, fun h => ?_, fun c hc => ?_⟩
      · have := hdvd h; omega
      · have := hcap c hc
        show low ≤ c
        omega
/-- What a rung below infinity reads as. -/
theorem read_rung (f : Format) (neg : Bool) (rung : Nat) (h : rung < f.infRung) :
    ∃ m e, f.read (f.word neg rung) = .number neg m e ∧
      ((rung < f.binade ∧ m = rung ∧ e = f.leastPlace) ∨ (f.binade ≤ rung ∧ m = f.binade + rung % f.binade ∧ e = f.leastPlace + (rung / f.binade - 1 : Nat))) := by
  have hB : 0 < f.binade := Nat.two_pow_pos _
  have hS : f.infRung < f.signWeight := by
    unfold Format.infRung Format.signWeight
    rw [Nat.pow_add]
    have h1 : 2 ^ f.exponentBits - 1 < 2 ^ f.exponentBits := Nat.sub_lt (Nat.two_pow_pos _) (by decide)
    have := Nat.mul_lt_mul_of_pos_right h1 hB
    unfold Format.binade at this ⊢
    exact this
  have hneg : (f.word neg rung / f.signWeight % 2 == 1) = neg := by
    unfold Format.word
    cases neg with
    | false => simp [Nat.div_eq_of_lt (show rung < f.signWeight by omega)]
    | true =>
      have e : (f.signWeight + rung) / f.signWeight = 1 := by
        rw [Nat.add_comm, Nat.add_div_right _ (by omega), Nat.div_eq_of_lt (by omega)]
      simp [e]
  have hr : f.word neg rung % f.signWeight = rung := by
    unfold Format.word
    cases neg with
    | false => simp [Nat.mod_eq_of_lt (show rung < f.signWeight by omega)]
    | true => simp [Nat.mod_eq_of_lt (show rung < f.signWeight by omega)]
  unfold Format.read
  simp only [hneg, hr]
  by_cases h1 : rung < f.binade
  · rw [if_pos h1]
    exact ⟨_, _, rfl, Or.inl ⟨h1, rfl, rfl⟩⟩
  · rw [if_neg h1, if_pos h]
    exact ⟨_, _, rfl, Or.inr ⟨by omega, rfl, rfl⟩⟩

theorem lelt {a b c : Rat} (h : a ≤ b) (k : b < c) : a < c := by grind
/-- The signed value. -/
def sgn (neg : Bool) (x : Rat) : Rat := if neg then -x else x
/-- What half a unit in the last place is of a number, and of the least ones. -/
def UL : FloatKind → Rat
  | .f32 => P2 (-24)
  | .f64 => P2 (-53)
def EL (k : FloatKind) : Rat := P2 (k.format.leastPlace - 1)
theorem fb_is (k : FloatKind) : k.format.fractionBits = 23 ∧ k.format.leastPlace = -149 ∧ k.format.infRung = 255 * 2 ^ 23 ∧ UL k = P2 (-((k.format.fractionBits : Int) + 1)) ∨ k.format.fractionBits = 52 ∧ k.format.leastPlace = -1074 ∧ k.format.infRung = 2047 * 2 ^ 52 ∧ UL k = P2 (-((k.format.fractionBits : Int) + 1)) := by
  cases k
  · exact Or.inl ⟨rfl, rfl, rfl, rfl⟩
  · exact Or.inr ⟨rfl, rfl, rfl, rfl⟩
/-- A number that the kind has. -/
def Rep (k : FloatKind) (x : Rat) : Prop := ∃ (n : Nat) (p : Int), x = (n : Rat) * P2 p ∧ n < 2 ^ (k.format.fractionBits + 1) ∧ k.format.leastPlace ≤ p
theorem natCast_le {a b : Nat} (h : a ≤ b) : (a : Rat) ≤ (b : Rat) := Rat.natCast_le_natCast.2 h
theorem natCast_lt {a b : Nat} (h : a < b) : (a : Rat) < (b : Rat) := Rat.natCast_lt_natCast.2 h
theorem mul_mono {a b c : Rat} (h : a ≤ b) (hc : 0 ≤ c) : a * c ≤ b * c := Rat.mul_le_mul_of_nonneg_right h hc
theorem mag_low {mag : Nat} (h : mag ≠ 0) (place : Int) : P2 (place + mag.log2) ≤ (mag : Rat) * P2 place := by
  rw [P2_add, P2_nat, Rat.mul_comm]
  exact mul_mono (natCast_le (Nat.log2_self_le h)) (Rat.le_of_lt (P2_pos _))
theorem mag_high (mag : Nat) (place : Int) : (mag : Rat) * P2 place < P2 (place + mag.log2 + 1) := by
  rw [show place + (mag.log2 : Int) + 1 = place + ((mag.log2 + 1 : Nat) : Int) by omega, P2_add, P2_nat, Rat.mul_comm (P2 place)]
  exact Rat.mul_lt_mul_of_pos_right (natCast_lt Nat.lt_log2_self) (P2_pos _)

/-- ROUNDING: the word nearest to a number that is not too great reads as a number that is off by half a unit at the most; and just as that number, if the kind has it. -/
theorem nearest_val (k : FloatKind) (neg : Bool) (mag : Nat) (place : Int) (hx : (mag : Rat) * P2 place ≤ P2 60) :
    ∃ m e, k.decode (k.encode (.number neg mag place)) = .number neg m e ∧
      (m : Rat) * P2 e ≤ (mag : Rat) * P2 place + ((mag : Rat) * P2 place * UL k + EL k) ∧ (mag : Rat) * P2 place ≤ (m : Rat) * P2 e + ((mag : Rat) * P2 place * UL k + EL k) ∧
      (Rep k ((mag : Rat) * P2 place) → (m : Rat) * P2 e = (mag : Rat) * P2 place) := by
  have hf := fb_is k
  have hEL := P2_pos (k.format.leastPlace - 1)
  unfold FloatKind.decode FloatKind.encode Format.write Format.nearest EL
  simp only
  by_cases h0 : mag = 0
  · subst h0
    simp only [if_pos]
    obtain ⟨m, e, hr, hc⟩ := read_rung k.format neg 0 (by rcases hf with h | h <;> omega)
    refine ⟨m, e, hr, ?_⟩
    have hm : m = 0 := by
      rcases hc with ⟨_, h, _⟩ | ⟨h, _, _⟩
      · exact h
      · have : 0 < k.format.binade := Nat.two_pow_pos _
        omega
    subst hm
    have z : ((0 : Nat) : Rat) * P2 e = 0 := by show (0 : Rat) * _ = 0; grind
    have z' : ((0 : Nat) : Rat) * P2 place = 0 := by show (0 : Rat) * _ = 0; grind
    rw [z, z']
    refine ⟨by grind, by grind, fun _ => rfl⟩
  · rw [if_neg h0]
    have hlow := mag_low h0 place
    have hhigh := mag_high mag place
    generalize hL : mag.log2 = L at *
    have h60 : place + (L : Int) ≤ 60 := by
      have := P2_lt (a := place + L) (b := 61) (by have := P2_half 61; have := P2_pos (61 - 1); have : P2 (61 - 1) = P2 60 := rfl; grind)
      omega
    generalize hlast : max (place + (L : Int) - (k.format.fractionBits : Int)) k.format.leastPlace = last
    have hl1 : k.format.leastPlace ≤ last := by omega
    have hl2 : place + (L : Int) - (k.format.fractionBits : Int) ≤ last := by omega
    generalize hn : mag <<< (place - last).toNat = n
    generalize hd : (last - place).toNat = d
    rw [Nat.shiftLeft_eq] at hn
    have hn0 : n ≠ 0 := by
      rw [← hn]
      exact Nat.mul_ne_zero h0 (Nat.ne_of_gt (Nat.two_pow_pos _))
    obtain ⟨c1, c2, c3, c4⟩ := cut_near neg n d hn0
    generalize hr : Toward.even.cut neg n d = r at *
    -- the number in units
    have hxn : (mag : Rat) * P2 place = (n : Rat) * P2 (last - (d : Int)) := by
      rcases Int.lt_or_le place last with h | h
      · rw [show last - (d : Int) = place by omega, ← hn, show (place - last).toNat = 0 by omega, Nat.pow_zero, Nat.mul_one]
      · rw [show last - (d : Int) = last by omega, ← hn, Rat.natCast_mul, ← P2_nat, Rat.mul_assoc, ← P2_add, show (((place - last).toNat : Nat) : Int) + last = place by omega]
    have hpd : P2 (last - (d : Int)) * ((2 ^ d : Nat) : Rat) = P2 last := by
      rw [← P2_nat, ← P2_add, show last - (d : Int) + (d : Int) = last by omega]
    have hyr : (r : Rat) * P2 last = ((r * 2 ^ d : Nat) : Rat) * P2 (last - (d : Int)) := by
      rw [Rat.natCast_mul, ← hpd]
      grind
    -- few units
    have hfew : r ≤ 2 ^ (k.format.fractionBits + 1) := by
      refine c4 _ (Nat.lt_of_not_le fun hge => ?_)
      have q1 := mul_mono (natCast_le hge) (Rat.le_of_lt (P2_pos (last - (d : Int))))
      rw [← hxn, Rat.natCast_mul, ← P2_nat, ← P2_nat, Rat.mul_assoc, Rat.mul_comm, Rat.mul_assoc, ← P2_add, ← P2_add] at q1
      have q2 := P2_lt (lelt q1 hhigh)
      omega
    -- the rung
    have hBB : (2 : Nat) ^ (k.format.fractionBits + 1) = 2 * k.format.binade := by unfold Format.binade; rw [Nat.pow_succ]; omega
    have hinf : (last - k.format.leastPlace).toNat * k.format.binade + r < k.format.infRung := by
      rcases hf with ⟨f1, f2, f3, _⟩ | ⟨f1, f2, f3, _⟩
      · have : k.format.binade = 2 ^ 23 := by unfold Format.binade; rw [f1]
        rw [f3, this]
        rw [this] at hBB
        have : (last - k.format.leastPlace).toNat ≤ 187 := by omega
        have := Nat.mul_le_mul_right (2 ^ 23) this
        omega
      · have : k.format.binade = 2 ^ 52 := by unfold Format.binade; rw [f1]
        rw [f3, this]
        rw [this] at hBB
        have : (last - k.format.leastPlace).toNat ≤ 1083 := by omega
        have := Nat.mul_le_mul_right (2 ^ 52) this
        omega
    rw [Nat.min_eq_left (Nat.le_of_lt hinf)]
    obtain ⟨m, e, hread, hc⟩ := read_rung k.format neg _ hinf
    refine ⟨m, e, hread, ?_⟩
    have hB : 0 < k.format.binade := Nat.two_pow_pos _
    -- below a whole binade only at the least place
    have hbig : k.format.binade ≤ r ∨ last = k.format.leastPlace := by
      rcases Nat.lt_or_ge r k.format.binade with h | h
      · refine Or.inr ?_
        rcases Int.lt_or_le k.format.leastPlace last with h' | h'
        · exfalso
          have hlast' : last = place + (L : Int) - (k.format.fractionBits : Int) := by omega
          have hdvd : k.format.binade * 2 ^ d ≤ n := by
            refine Nat.le_of_not_lt fun hlt => ?_
            have q1 := Rat.mul_lt_mul_of_pos_right (natCast_lt hlt) (P2_pos (last - (d : Int)))
            rw [← hxn, Rat.natCast_mul, Rat.mul_assoc, Rat.mul_comm ((2 ^ d : Nat) : Rat), hpd] at q1
            unfold Format.binade at q1
            rw [← P2_nat, ← P2_add] at q1
            have q2 := P2_lt (lelt hlow q1)
            omega
          have h3 : r * 2 ^ d + 2 ^ d ≤ k.format.binade * 2 ^ d := by
            have := Nat.mul_le_mul_right (2 ^ d) (show r + 1 ≤ k.format.binade from h)
            rw [Nat.add_mul, Nat.one_mul] at this
            exact this
          have : 0 < 2 ^ d := Nat.two_pow_pos d
          omega
        · omega
      · exact Or.inl h
    have hval : (m : Rat) * P2 e = (r : Rat) * P2 last := by
      obtain ⟨t, ht⟩ : ∃ t : Nat, last = k.format.leastPlace + (t : Int) := ⟨(last - k.format.leastPlace).toNat, by omega⟩
      rw [show (last - k.format.leastPlace).toNat = t by omega] at hc hinf
      have hr2 : r ≤ 2 * k.format.binade := by omega
      rcases hc with ⟨h1, h2, h3⟩ | ⟨h1, h2, h3⟩
      · have ht0 : t = 0 := by
          rcases Nat.eq_zero_or_pos t with h | h
          · exact h
          · have := Nat.mul_le_mul_right k.format.binade h
            omega
        subst ht0
        rw [h2, h3, Nat.zero_mul, Nat.zero_add, ht]
        simp
      · rcases Nat.lt_or_ge r k.format.binade with hs | hs
        · have ht0 : t = 0 := by
            rcases hbig with h | h
            · omega
            · omega
          subst ht0
          omega
        · rcases Nat.lt_or_ge r (2 * k.format.binade) with hs2 | hs2
          · obtain ⟨q, hq⟩ : ∃ q, r = k.format.binade + q := ⟨r - k.format.binade, by omega⟩
            have hrr : t * k.format.binade + r = (t + 1) * k.format.binade + q := by rw [hq, Nat.add_mul]; omega
            have hqlt : q < k.format.binade := by omega
            have e1 : (t * k.format.binade + r) / k.format.binade = t + 1 := by
              rw [hrr, Nat.mul_comm, Nat.mul_add_div hB, Nat.div_eq_of_lt hqlt]
            have e2 : (t * k.format.binade + r) % k.format.binade = q := by
              rw [hrr, Nat.mul_comm, Nat.mul_add_mod, Nat.mod_eq_of_lt hqlt]
            rw [h2, h3, e1, e2, ← hq, ht]
            rfl
          · have hr3 : r = 2 * k.format.binade := by omega
            have hrr : t * k.format.binade + r = (t + 2) * k.format.binade := by rw [hr3, Nat.add_mul]
            have e1 : (t * k.format.binade + r) / k.format.binade = t + 2 := by rw [hrr, Nat.mul_div_cancel _ hB]
            have e2 : (t * k.format.binade + r) % k.format.binade = 0 := by rw [hrr, Nat.mul_mod_left]
            rw [h2, h3, e1, e2, ht, hr3, Nat.add_zero, show k.format.leastPlace + ((t + 2 - 1 : Nat) : Int) = k.format.leastPlace + (t : Int) + 1 by omega, P2_add _ 1, Rat.natCast_mul]
            have e3 : P2 1 = 2 := by decide +kernel
            rw [e3]
            show _ = (2 : Rat) * _ * _
            grind
    rw [hval]
    -- the error
    have hunit : P2 (last - 1) ≤ (mag : Rat) * P2 place * UL k + P2 (k.format.leastPlace - 1) := by
      have hU : UL k = P2 (-((k.format.fractionBits : Int) + 1)) := by rcases hf with h | h <;> exact h.2.2.2
      have hUp : 0 < UL k := by rw [hU]; exact P2_pos _
      have hx0 : 0 ≤ (mag : Rat) * P2 place := Rat.le_trans (Rat.le_of_lt (P2_pos _)) hlow
      have hxu : 0 ≤ (mag : Rat) * P2 place * UL k := Rat.mul_nonneg hx0 (Rat.le_of_lt hUp)
      rcases Int.lt_or_le k.format.leastPlace last with h' | h'
      · have hlast' : last - 1 = place + (L : Int) + -((k.format.fractionBits : Int) + 1) := by omega
        have q := mul_mono hlow (Rat.le_of_lt hUp)
        rw [hU] at q ⊢
        rw [← P2_add, ← hlast'] at q
        have := P2_pos (k.format.leastPlace - 1)
        grind
      · have : last = k.format.leastPlace := by omega
        rw [this]
        grind
    have hp := P2_pos (last - (d : Int))
    have hh : P2 (last - 1) + P2 (last - 1) = ((2 ^ d : Nat) : Rat) * P2 (last - (d : Int)) := by rw [P2_half, Rat.mul_comm, hpd]
    have b1 : (r : Rat) * P2 last ≤ (mag : Rat) * P2 place + P2 (last - 1) := by
      have q := mul_mono (natCast_le c1) (Rat.le_of_lt hp)
      rw [Rat.natCast_add, Rat.natCast_mul, Rat.natCast_mul 2 n] at q
      rw [hyr, hxn]
      have t2 : ((2 : Nat) : Rat) = 2 := rfl
      rw [t2] at q
      grind
    have b2 : (mag : Rat) * P2 place ≤ (r : Rat) * P2 last + P2 (last - 1) := by
      have q := mul_mono (natCast_le c2) (Rat.le_of_lt hp)
      rw [Rat.natCast_add, Rat.natCast_mul, Rat.natCast_mul 2 (r * 2 ^ d)] at q
      rw [hyr, hxn]
      have t2 : ((2 : Nat) : Rat) = 2 := rfl
      rw [t2] at q
      grind
    refine ⟨by grind, by grind, ?_⟩
    rintro ⟨a, p, ha, hb, hlp⟩
    have hple : last ≤ p := by
      have q1 : P2 (place + (L : Int)) < P2 (((k.format.fractionBits + 1 : Nat) : Int) + p) := by
        refine lelt hlow ?_
        rw [ha, P2_add, P2_nat]
        exact Rat.mul_lt_mul_of_pos_right (natCast_lt hb) (P2_pos _)
      have := P2_lt q1
      omega
    have hdv : 2 ^ d ∣ n := by
      rcases Int.lt_or_le place last with h | h
      · have hnm : n = mag := by rw [← hn, show (place - last).toNat = 0 by omega]; simp
        have hmul : (mag : Rat) = ((a * 2 ^ (p - place).toNat : Nat) : Rat) := by
          have e : P2 p = P2 (((p - place).toNat : Nat) : Int) * P2 place := by rw [← P2_add]; congr 1; omega
          rw [Rat.natCast_mul, ← P2_nat]
          rw [e, ← Rat.mul_assoc] at ha
          have hpp := P2_pos place
          have h1 : (mag : Rat) * P2 place / P2 place = (a : Rat) * P2 (((p - place).toNat : Nat) : Int) * P2 place / P2 place := by rw [ha]
          rw [Rat.mul_div_cancel (by grind), Rat.mul_div_cancel (by grind)] at h1
          exact h1
        have hmul' : mag = a * 2 ^ (p - place).toNat := Rat.natCast_inj.1 hmul
        rw [hnm, hmul']
        exact Nat.dvd_trans (Nat.pow_dvd_pow 2 (by omega)) (Nat.dvd_mul_left _ _)
      · rw [show d = 0 by omega]
        exact ⟨n, by simp⟩
    have := c3 hdv
    rw [hyr, this, ← hxn]

/-- The word is a finite number; its value. -/
def Fin (k : FloatKind) (b : Nat) (x : Rat) : Prop := ∃ s m e, k.decode b = .number s m e ∧ x = sgn s ((m : Rat) * P2 e)
/-- A number that the kind has, of either sign. -/
def RepS (k : FloatKind) (x : Rat) : Prop := Rep k x ∨ Rep k (-x)
theorem sgn_abs (s : Bool) (x : Rat) (h : 0 ≤ x) : sgn s x ≤ x ∧ -x ≤ sgn s x := by
  unfold sgn
  cases s
  · simp; grind
  · simp; grind
theorem val_nonneg (m : Nat) (e : Int) : 0 ≤ (m : Rat) * P2 e := Rat.mul_nonneg (Rat.natCast_nonneg) (Rat.le_of_lt (P2_pos e))
/-- x and z: near, by half a unit in the last place. -/
def Near (k : FloatKind) (z x : Rat) : Prop := (0 ≤ x → z ≤ x + (x * UL k + EL k) ∧ x ≤ z + (x * UL k + EL k) ∧ 0 ≤ z) ∧ (x ≤ 0 → z ≤ x + (-x * UL k + EL k) ∧ x ≤ z + (-x * UL k + EL k) ∧ z ≤ 0)
theorem rep_zero_pos (n : Nat) (p : Int) (x : Rat) (h : -x = (n : Rat) * P2 p) (hx : 0 ≤ x) : x = 0 := by
  have := val_nonneg n p
  grind
/-- What is written of a number: near it; just it, if the kind has it. -/
theorem encode_fin (k : FloatKind) (s : Bool) (mag : Nat) (place : Int) (x : Rat) (hx : x = sgn s ((mag : Rat) * P2 place)) (h1 : x ≤ P2 60) (h2 : -x ≤ P2 60) :
    ∃ z, Fin k (k.encode (.number s mag place)) z ∧ Near k z x ∧ (RepS k x → z = x) := by
  have hv := val_nonneg mag place
  have hle : (mag : Rat) * P2 place ≤ P2 60 := by
    unfold sgn at hx
    cases s
    · simp at hx; grind
    · simp at hx; grind
  obtain ⟨m, e, hd, a1, a2, a3⟩ := nearest_val k s mag place hle
  have hm := val_nonneg m e
  refine ⟨sgn s ((m : Rat) * P2 e), ⟨s, m, e, hd, rfl⟩, ?_, ?_⟩
  · subst hx
    unfold sgn Near
    have hE : 0 < EL k := P2_pos _
    have hU : 0 < UL k := by cases k <;> exact P2_pos _
    have hxu : 0 ≤ (mag : Rat) * P2 place * UL k := Rat.mul_nonneg hv (Rat.le_of_lt hU)
    have h00 : (mag : Rat) * P2 place ≤ 0 → (mag : Rat) * P2 place = 0 := fun h => by grind
    have hrep0 : (mag : Rat) * P2 place = 0 → (m : Rat) * P2 e = 0 := fun h => by
      have := a3 ⟨0, k.format.leastPlace, by rw [h]; show (0 : Rat) = 0 * _; grind, Nat.two_pow_pos _, Int.le_refl _⟩
      rw [this, h]
    cases s
    · simp
      refine ⟨fun _ => ⟨a1, a2, hm⟩, fun h => ?_⟩
      have z0 := h00 h
      have z1 := hrep0 z0
      rw [z0, z1]
      refine ⟨?_, ?_, by grind⟩ <;> grind
    · simp
      refine ⟨fun h => ?_, fun h => ?_⟩
      · have z0 : (mag : Rat) * P2 place = 0 := by grind
        have z1 := hrep0 z0
        rw [z0, z1]
        refine ⟨?_, ?_, by grind⟩ <;> grind
      · refine ⟨?_, ?_, by grind⟩ <;> grind
  · intro hr
    subst hx
    unfold sgn at hr ⊢
    have key : Rep k ((mag : Rat) * P2 place) := by
      cases s with
      | false =>
        simp at hr
        rcases hr with h | ⟨n, p, h, hn, hp⟩
        · exact h
        · have z := rep_zero_pos n p _ h hv
          exact ⟨0, k.format.leastPlace, by rw [z]; show (0 : Rat) = 0 * _; grind, Nat.two_pow_pos _, Int.le_refl _⟩
      | true =>
        simp at hr
        rcases hr with ⟨n, p, h, hn, hp⟩ | h
        · have z := rep_zero_pos n p _ h hv
          exact ⟨0, k.format.leastPlace, by rw [z]; show (0 : Rat) = 0 * _; grind, Nat.two_pow_pos _, Int.le_refl _⟩
        · rwa [Rat.neg_neg] at h
    rw [a3 key]
theorem signed_val (s : Bool) (m up : Nat) (base : Int) : ((Ieee.signed s m up : Int) : Rat) * P2 base = sgn s ((m : Rat) * P2 (base + (up : Int))) := by
  unfold Ieee.signed sgn
  rw [P2_add, P2_nat]
  cases s
  · simp only [Bool.false_eq_true, if_false]
    rw [Nat.shiftLeft_eq, Rat.intCast_natCast, Rat.natCast_mul]
    grind
  · simp only [if_true]
    rw [Nat.shiftLeft_eq, Rat.intCast_neg, Rat.intCast_natCast, Rat.natCast_mul]
    grind
/-- The sum of two numbers, as the machine has it ahead of rounding. -/
theorem sum_val {s t : Bool} {m n : Nat} {i j : Int} : ∃ u a p, Datum.sum (.number s m i) (.number t n j) = some (.number u a p) ∧ sgn u ((a : Rat) * P2 p) = sgn s ((m : Rat) * P2 i) + sgn t ((n : Rat) * P2 j) := by
  refine ⟨_, _, _, rfl, ?_⟩
  generalize hb : min i j = base
  have e1 := signed_val s m (i - base).toNat base
  have e2 := signed_val t n (j - base).toNat base
  rw [show base + (((i - base).toNat : Nat) : Int) = i by omega] at e1
  rw [show base + (((j - base).toNat : Nat) : Int) = j by omega] at e2
  rw [← e1, ← e2, ← Rat.add_mul, ← Rat.intCast_add]
  generalize Ieee.signed s m (i - base).toNat + Ieee.signed t n (j - base).toNat = T
  by_cases h0 : T = 0
  · subst h0
    simp only [if_true, Int.natAbs_zero]
    have z : ((0 : Nat) : Rat) * P2 base = 0 := by show (0 : Rat) * _ = 0; grind
    have z2 : ((0 : Int) : Rat) * P2 base = 0 := by show (0 : Rat) * _ = 0; grind
    rw [z, z2]
    unfold sgn
    split <;> grind
  · rw [if_neg h0]
    unfold sgn
    by_cases hn : T < 0
    · rw [decide_eq_true hn, if_pos rfl]
      have : (T.natAbs : Int) = -T := by omega
      have e : ((T.natAbs : Nat) : Rat) = -(T : Rat) := by rw [← Rat.intCast_neg, ← this]; rfl
      rw [e]
      grind
    · rw [decide_eq_false hn, if_neg (by decide)]
      have : (T.natAbs : Int) = T := by omega
      have e : ((T.natAbs : Nat) : Rat) = (T : Rat) := by rw [← Rat.intCast_natCast, this]
      rw [e]
theorem add_fin {k : FloatKind} {a b : Nat} {x y : Rat} (ha : Fin k a x) (hb : Fin k b y) (h1 : x + y ≤ P2 60) (h2 : -(x + y) ≤ P2 60) :
    ∃ r z, floatBits .add k a b = some r ∧ Fin k r z ∧ Near k z (x + y) ∧ (RepS k (x + y) → z = x + y) := by
  obtain ⟨s, m, i, hda, rfl⟩ := ha
  obtain ⟨t, n, j, hdb, rfl⟩ := hb
  obtain ⟨u, c, p, hs, hv⟩ := sum_val (s := s) (t := t) (m := m) (n := n) (i := i) (j := j)
  obtain ⟨z, hz, hn, hr⟩ := encode_fin k u c p _ hv.symm h1 h2
  refine ⟨_, z, ?_, hz, hn, hr⟩
  unfold FloatKind.decode at hda hdb
  simp only [floatBits, Format.add, hda, hdb, hs, Option.map_some]
  rfl
theorem sub_fin {k : FloatKind} {a b : Nat} {x y : Rat} (ha : Fin k a x) (hb : Fin k b y) (h1 : x - y ≤ P2 60) (h2 : -(x - y) ≤ P2 60) :
    ∃ r z, floatBits .sub k a b = some r ∧ Fin k r z ∧ Near k z (x - y) ∧ (RepS k (x - y) → z = x - y) := by
  obtain ⟨s, m, i, hda, rfl⟩ := ha
  obtain ⟨t, n, j, hdb, rfl⟩ := hb
  obtain ⟨u, c, p, hs, hv⟩ := sum_val (s := s) (t := !t) (m := m) (n := n) (i := i) (j := j)
  have e : sgn s ((m : Rat) * P2 i) + sgn (!t) ((n : Rat) * P2 j) = sgn s ((m : Rat) * P2 i) - sgn t ((n : Rat) * P2 j) := by
    unfold sgn
    cases t <;> simp <;> grind
  rw [e] at hv
  obtain ⟨z, hz, hn, hr⟩ := encode_fin k u c p _ hv.symm h1 h2
  refine ⟨_, z, ?_, hz, hn, hr⟩
  unfold FloatKind.decode at hda hdb
  simp only [floatBits, Format.sub, hda, hdb, Datum.opposite, hs, Option.map_some]
  rfl
theorem sgn_mul (s t : Bool) (x y : Rat) : sgn s x * sgn t y = sgn (s ^^ t) (x * y) := by
  unfold sgn
  cases s <;> cases t <;> simp <;> grind
theorem mul_fin {k : FloatKind} {a b : Nat} {x y : Rat} (ha : Fin k a x) (hb : Fin k b y) (h1 : x * y ≤ P2 60) (h2 : -(x * y) ≤ P2 60) :
    ∃ r z, floatBits .mul k a b = some r ∧ Fin k r z ∧ Near k z (x * y) ∧ (RepS k (x * y) → z = x * y) := by
  obtain ⟨s, m, i, hda, rfl⟩ := ha
  obtain ⟨t, n, j, hdb, rfl⟩ := hb
  have hv : sgn s ((m : Rat) * P2 i) * sgn t ((n : Rat) * P2 j) = sgn (s ^^ t) (((m * n : Nat) : Rat) * P2 (i + j)) := by
    rw [sgn_mul, Rat.natCast_mul, P2_add]
    congr 1
    grind
  obtain ⟨z, hz, hn, hr⟩ := encode_fin k (s ^^ t) (m * n) (i + j) _ hv h1 h2
  refine ⟨_, z, ?_, hz, hn, hr⟩
  unfold FloatKind.decode at hda hdb
  simp only [floatBits, Format.mul, hda, hdb, Datum.product, Option.map_some]
  rfl

/-- The quotient of two numbers, as the machine has it ahead of rounding: near enough. -/
theorem quo_val {digits : Nat} {s t : Bool} {m n : Nat} {i j : Int} (hn : n ≠ 0) : ∃ a p, Datum.quotient digits (.number s m i) (.number t n j) = some (.number (s ^^ t) a p) ∧
    (a : Rat) * P2 p * ((n : Rat) * P2 j) ≤ (m : Rat) * P2 i + (m : Rat) * P2 i * P2 (-(digits : Int)) ∧ (m : Rat) * P2 i ≤ (a : Rat) * P2 p * ((n : Rat) * P2 j) + (m : Rat) * P2 i * P2 (-(digits : Int)) ∧
    (∀ (c : Nat) (q : Int), (m : Rat) * P2 i = (c : Rat) * P2 q * ((n : Rat) * P2 j) → c < 2 ^ digits → (a : Rat) * P2 p * ((n : Rat) * P2 j) = (m : Rat) * P2 i) := by
  refine ⟨_, _, (if_neg hn).trans rfl, ?_⟩
  generalize hmore : digits + n.log2 - m.log2 = more
  rw [Nat.shiftLeft_eq]
  generalize hD : m * 2 ^ more = D
  have hdm := Nat.div_add_mod D n
  have hlt := Nat.mod_lt D (Nat.pos_of_ne_zero hn)
  have hdv : ∀ q', D = q' * n → D % n = 0 := fun q' h => by rw [h]; exact Nat.mul_mod_left ..
  have hqq : D / n = D / n := rfl
  generalize hqd : D / n = Q at *
  generalize hr : D % n = R at *
  have hJ := P2_pos j
  have hI := P2_pos i
  have hscale : (m : Rat) * P2 i = (D : Rat) * P2 (i - (more : Int)) := by
    rw [← hD, Rat.natCast_mul, ← P2_nat, Rat.mul_assoc, ← P2_add]
    congr 2
    omega
  -- a quotient's unit
  have hunit : ∀ a : Nat, (a : Rat) * P2 (i - j - (more : Int) - 1) * ((n : Rat) * P2 j) = ((a * n : Nat) : Rat) * P2 (i - (more : Int) - 1) := by
    intro a
    have e : P2 (i - (more : Int) - 1) = P2 (i - j - (more : Int) - 1) * P2 j := by rw [← P2_add]; congr 1; omega
    rw [e, Rat.natCast_mul]
    grind
  have hDn : D = n * Q + R := by omega
  have hhalf := P2_half (i - (more : Int))
  have hp := P2_pos (i - (more : Int) - 1)
  have hD2 : (D : Rat) * P2 (i - (more : Int)) = ((2 * D : Nat) : Rat) * P2 (i - (more : Int) - 1) := by
    rw [Rat.natCast_mul, ← hhalf]
    have t2 : ((2 : Nat) : Rat) = 2 := rfl
    rw [t2]
    grind
  rw [hunit, hscale, hD2]
  -- how great the whole quotient is
  have hslack : m ≠ 0 → n * 2 ^ digits ≤ 2 * D := by
    intro hm0
    have l1 := Nat.log2_self_le hm0
    have l2 : n < 2 ^ (n.log2 + 1) := Nat.lt_log2_self
    have h1 : n * 2 ^ digits ≤ 2 ^ (n.log2 + 1) * 2 ^ digits := Nat.mul_le_mul_right _ (Nat.le_of_lt l2)
    rw [← Nat.pow_add] at h1
    have h2 : 2 ^ m.log2 * 2 ^ more ≤ D := by rw [← hD]; exact Nat.mul_le_mul_right _ l1
    rw [← Nat.pow_add] at h2
    have h3 : 2 ^ (n.log2 + 1 + digits) ≤ 2 ^ (m.log2 + more + 1) := Nat.pow_le_pow_right (by decide) (by omega)
    have h4 : 2 ^ (m.log2 + more + 1) = 2 * 2 ^ (m.log2 + more) := by rw [Nat.pow_succ]; omega
    omega
  have hs : ((2 * D : Nat) : Rat) * P2 (i - (more : Int) - 1) * P2 (-(digits : Int)) ≥ (if m = 0 then 0 else (n : Rat) * P2 (i - (more : Int) - 1)) := by
    by_cases hm0 : m = 0
    · rw [if_pos hm0]
      exact Rat.mul_nonneg (Rat.mul_nonneg Rat.natCast_nonneg (Rat.le_of_lt hp)) (Rat.le_of_lt (P2_pos _))
    · rw [if_neg hm0]
      have q := natCast_le (hslack hm0)
      rw [Rat.natCast_mul n, ← P2_nat] at q
      have q2 := mul_mono (mul_mono q (Rat.le_of_lt hp)) (Rat.le_of_lt (P2_pos (-(digits : Int))))
      have inv := P2_inv (digits : Int)
      have e : (n : Rat) * P2 (digits : Int) * P2 (i - (more : Int) - 1) * P2 (-(digits : Int)) = (n : Rat) * P2 (i - (more : Int) - 1) * (P2 (digits : Int) * P2 (-(digits : Int))) := by grind
      rw [e, inv] at q2
      grind
  have hR0 : m = 0 → R = 0 := by
    intro h
    have : D = 0 := by rw [← hD, h]; simp
    exact hdv 0 (by omega)
  have hmul : (2 * Q + (R != 0).toNat) * n = 2 * (n * Q) + (if R = 0 then 0 else n) := by
    by_cases h : R = 0
    · rw [h, if_pos rfl]
      simp
      rw [Nat.mul_assoc, Nat.mul_comm Q n]
    · rw [if_neg h, show (R != 0) = true from bne_iff_ne.2 h, show true.toNat = 1 from rfl, Nat.add_mul, Nat.mul_assoc, Nat.mul_comm Q n, Nat.one_mul]
  have hnpos := natCast_lt (Nat.pos_of_ne_zero hn)
  have hnp : 0 ≤ (n : Rat) * P2 (i - (more : Int) - 1) := Rat.mul_nonneg Rat.natCast_nonneg (Rat.le_of_lt hp)
  refine ⟨?_, ?_, ?_⟩
  · rw [hmul]
    by_cases h : R = 0
    · rw [if_pos h]
      have q := mul_mono (natCast_le (show 2 * (n * Q) + 0 ≤ 2 * D by omega)) (Rat.le_of_lt hp)
      have hm : (0 : Rat) ≤ (if m = 0 then 0 else (n : Rat) * P2 (i - (more : Int) - 1)) := by split <;> grind
      grind
    · rw [if_neg h]
      have hm0 : m ≠ 0 := fun h' => h (hR0 h')
      rw [if_neg hm0] at hs
      have q := mul_mono (natCast_le (show 2 * (n * Q) + n ≤ 2 * D + n by omega)) (Rat.le_of_lt hp)
      rw [Rat.natCast_add (2 * D)] at q
      grind
  · rw [hmul]
    by_cases h : R = 0
    · rw [if_pos h]
      have q := mul_mono (natCast_le (show 2 * D ≤ 2 * (n * Q) + 0 by omega)) (Rat.le_of_lt hp)
      have hm : (0 : Rat) ≤ (if m = 0 then 0 else (n : Rat) * P2 (i - (more : Int) - 1)) := by split <;> grind
      grind
    · rw [if_neg h]
      have hm0 : m ≠ 0 := fun h' => h (hR0 h')
      rw [if_neg hm0] at hs
      have q := mul_mono (natCast_le (show 2 * D ≤ 2 * (n * Q) + n + n by omega)) (Rat.le_of_lt hp)
      rw [Rat.natCast_add (2 * (n * Q) + n)] at q
      grind
  · intro c q hc hcl
    rw [hmul]
    by_cases h : R = 0
    · rw [if_pos h, show 2 * (n * Q) + 0 = 2 * D by omega]
    · exfalso
      have hm0 : m ≠ 0 := fun h' => h (hR0 h')
      -- D / n = c * 2^(q - (i - j - more)), a whole number
      have hD3 : (D : Rat) * P2 (i - (more : Int)) = (c : Rat) * P2 q * ((n : Rat) * P2 j) := by rw [hD2]; exact hc
      have hpos2 := P2_pos (i - (more : Int))
      -- q + j ≥ i - more
      have hge : i - (more : Int) ≤ q + j := by
        rcases Int.lt_or_le (q + j) (i - (more : Int)) with h' | h'
        · exfalso
          have q1 := mul_mono (natCast_le (hslack hm0)) (Rat.le_of_lt hp)
          rw [← hD2, hD3, Rat.natCast_mul, ← P2_nat] at q1
          -- n * 2^digits * P2 (i-more-1) ≤ c * P2 q * n * P2 j = c * n * P2 (q + j)
          have e1 : (c : Rat) * P2 q * ((n : Rat) * P2 j) = (n : Rat) * ((c : Rat) * P2 (q + j)) := by rw [P2_add]; grind
          have e2 : (n : Rat) * P2 (digits : Int) * P2 (i - (more : Int) - 1) = (n : Rat) * P2 ((digits : Int) + (i - (more : Int) - 1)) := by rw [P2_add]; grind
          rw [e1, e2] at q1
          have q2 := Rat.le_of_mul_le_mul_left q1 hnpos
          have q3 : (c : Rat) * P2 (q + j) < P2 ((digits : Int) + (q + j)) := by
            rw [P2_add (digits : Int), P2_nat]
            exact Rat.mul_lt_mul_of_pos_right (natCast_lt hcl) (P2_pos _)
          have q4 := P2_lt (lelt q2 q3)
          omega
        · exact h'
      obtain ⟨u, hu⟩ := Int.eq_ofNat_of_zero_le (show 0 ≤ q + j - (i - (more : Int)) by omega)
      have e3 : (c : Rat) * P2 q * ((n : Rat) * P2 j) = ((c * 2 ^ u * n : Nat) : Rat) * P2 (i - (more : Int)) := by
        rw [Rat.natCast_mul, Rat.natCast_mul, ← P2_nat]
        have : P2 q * P2 j = P2 (u : Int) * P2 (i - (more : Int)) := by rw [← P2_add, ← P2_add]; congr 1; omega
        grind
      rw [e3] at hD3
      have e4 : (D : Rat) = ((c * 2 ^ u * n : Nat) : Rat) := by
        have h1 : (D : Rat) * P2 (i - (more : Int)) / P2 (i - (more : Int)) = ((c * 2 ^ u * n : Nat) : Rat) * P2 (i - (more : Int)) / P2 (i - (more : Int)) := by rw [hD3]
        rw [Rat.mul_div_cancel (by grind), Rat.mul_div_cancel (by grind)] at h1
        exact h1
      exact h (hdv _ (Rat.natCast_inj.1 e4))
/-- How near a quotient is: a little more than half a unit. -/
def UD (k : FloatKind) : Rat := UL k + UL k
def NearQ (k : FloatKind) (z x : Rat) : Prop := (0 ≤ x → z ≤ x + (x * UD k + (EL k + EL k)) ∧ x ≤ z + (x * UD k + (EL k + EL k)) ∧ 0 ≤ z) ∧ (x ≤ 0 → z ≤ x + (-x * UD k + (EL k + EL k)) ∧ x ≤ z + (-x * UD k + (EL k + EL k)) ∧ z ≤ 0)

theorem UL_small (k : FloatKind) : 0 < UL k ∧ UL k ≤ 1 / 16777216 := by
  cases k
  · exact ⟨P2_pos _, by decide +kernel⟩
  · exact ⟨P2_pos _, by decide +kernel⟩
theorem EL_small (k : FloatKind) : 0 < EL k ∧ EL k ≤ P2 (-150) := by
  cases k
  · exact ⟨P2_pos _, Rat.le_refl⟩
  · exact ⟨P2_pos _, P2_le (by decide)⟩
theorem div_le_of {a b c : Rat} (hc : 0 < c) (h : a ≤ b * c) : a / c ≤ b := by
  have : a / c * c ≤ b * c := by rw [Rat.div_mul_cancel (by grind)]; exact h
  exact Rat.le_of_mul_le_mul_right this hc
theorem le_div_of {a b c : Rat} (hc : 0 < c) (h : a * c ≤ b) : a ≤ b / c := by
  have : a * c ≤ b / c * c := by rw [Rat.div_mul_cancel (by grind)]; exact h
  exact Rat.le_of_mul_le_mul_right this hc
theorem sgn_div (s t : Bool) (x y : Rat) : sgn s x / sgn t y = sgn (s ^^ t) (x / y) := by
  unfold sgn
  cases s <;> cases t <;> simp <;> grind
theorem P2_half' (a : Int) : P2 (a - 1) = P2 a / 2 := by have := P2_half a; grind
theorem div_fin {k : FloatKind} {a b : Nat} {x y : Rat} (ha : Fin k a x) (hb : Fin k b y) (hy : y ≠ 0) (h1 : x / y ≤ P2 59) (h2 : -(x / y) ≤ P2 59) :
    ∃ r z, floatBits .quo k a b = some r ∧ Fin k r z ∧ NearQ k z (x / y) ∧ (RepS k (x / y) → z = x / y) := by
  obtain ⟨s, m, i, hda, rfl⟩ := ha
  obtain ⟨t, n, j, hdb, rfl⟩ := hb
  have hn : n ≠ 0 := by
    rintro rfl
    apply hy
    have : ((0 : Nat) : Rat) * P2 j = 0 := by show (0 : Rat) * _ = 0; grind
    unfold sgn
    split <;> rw [this] <;> grind
  have hX := val_nonneg m i
  have hY : 0 < (n : Rat) * P2 j := Rat.mul_pos (natCast_lt (Nat.pos_of_ne_zero hn)) (P2_pos j)
  obtain ⟨c, p, hq, q1, q2, q3⟩ := quo_val (digits := k.format.fractionBits + 2) (s := s) (t := t) (m := m) (n := n) (i := i) (j := j) hn
  have hxy := sgn_div s t ((m : Rat) * P2 i) ((n : Rat) * P2 j)
  have hQ := val_nonneg c p
  have hdl : P2 (-((k.format.fractionBits + 2 : Nat) : Int)) = UL k / 2 := by
    have hf := fb_is k
    have hU : UL k = P2 (-((k.format.fractionBits : Int) + 1)) := by rcases hf with h | h <;> exact h.2.2.2
    rw [hU, ← P2_half']
    congr 1
  rw [hdl] at q1 q2
  rw [hxy] at h1 h2 ⊢
  have hRY : (m : Rat) * P2 i / ((n : Rat) * P2 j) * ((n : Rat) * P2 j) = (m : Rat) * P2 i := Rat.div_mul_cancel (by grind)
  have hRx : ∀ cc q, (m : Rat) * P2 i / ((n : Rat) * P2 j) = cc * P2 q → (m : Rat) * P2 i = cc * P2 q * ((n : Rat) * P2 j) := fun cc q h => by rw [← h, hRY]
  have hR : 0 ≤ (m : Rat) * P2 i / ((n : Rat) * P2 j) := le_div_of hY (by grind)
  have hQx : (c : Rat) * P2 p * ((n : Rat) * P2 j) = (m : Rat) * P2 i → (c : Rat) * P2 p = (m : Rat) * P2 i / ((n : Rat) * P2 j) := fun h => by
    rw [← h, Rat.mul_div_cancel (by grind)]
  generalize (m : Rat) * P2 i / ((n : Rat) * P2 j) = R at *
  generalize (m : Rat) * P2 i = X at *
  generalize (n : Rat) * P2 j = Y at *
  have hUs := UL_small k
  have hEs := EL_small k
  have hRU : 0 ≤ R * UL k := Rat.mul_nonneg hR (Rat.le_of_lt hUs.1)
  -- the whole quotient against R
  have r1 : (c : Rat) * P2 p ≤ R + R * (UL k / 2) := by
    refine Rat.le_of_mul_le_mul_right (c := Y) ?_ hY
    have e : (R + R * (UL k / 2)) * Y = R * Y + R * Y * (UL k / 2) := by grind
    rw [e, hRY]
    exact q1
  have r2 : R ≤ (c : Rat) * P2 p + R * (UL k / 2) := by
    refine Rat.le_of_mul_le_mul_right (c := Y) ?_ hY
    have e : ((c : Rat) * P2 p + R * (UL k / 2)) * Y = (c : Rat) * P2 p * Y + R * Y * (UL k / 2) := by grind
    rw [e, hRY]
    exact q2
  have hR59 : R ≤ P2 59 := by
    unfold sgn at h1 h2
    split at h1
    · rename_i hs
      rw [if_pos hs] at h2
      grind
    · exact h1
  have h6059 := P2_half 60
  have e59 : P2 (60 - 1) = P2 59 := rfl
  have hQ60 : (c : Rat) * P2 p ≤ P2 60 := by
    have : R * UL k ≤ R * 1 := Rat.mul_le_mul_of_nonneg_left (by grind) hR
    grind
  have hqv : sgn (s ^^ t) ((c : Rat) * P2 p) = sgn (s ^^ t) ((c : Rat) * P2 p) := rfl
  obtain ⟨z, hz, hnear, hrep⟩ := encode_fin k (s ^^ t) c p _ hqv (by have := (sgn_abs (s ^^ t) _ hQ).1; grind) (by have := (sgn_abs (s ^^ t) _ hQ).2; grind)
  refine ⟨_, z, ?_, hz, ?_, ?_⟩
  · unfold FloatKind.decode at hda hdb
    simp only [floatBits, Format.div, hda, hdb, hq, Option.map_some]
    rfl
  · have hQU : (c : Rat) * P2 p * UL k ≤ R * UL k + R * (UL k / 2) * UL k := by
      have := mul_mono r1 (Rat.le_of_lt hUs.1)
      grind
    have hUU : R * (UL k / 2) * UL k ≤ R * UL k * (1 / 4) := by
      have e : R * (UL k / 2) * UL k = R * UL k * (UL k / 2) := by grind
      rw [e]
      exact Rat.mul_le_mul_of_nonneg_left (by grind) hRU
    unfold NearQ UD
    unfold Near sgn at hnear
    unfold sgn
    cases hst : (s ^^ t) with
    | false =>
      rw [hst] at hnear
      simp only [Bool.false_eq_true, if_false] at hnear ⊢
      refine ⟨fun h => ?_, fun h => ?_⟩
      · have := hnear.1 hQ
        grind
      · have z0 : R = 0 := by grind
        have z1 : (c : Rat) * P2 p = 0 := by rw [z0] at r1; grind
        have := hnear.2 (by grind)
        rw [z1] at this
        rw [z0]
        grind
    | true =>
      rw [hst] at hnear
      simp only [if_true] at hnear ⊢
      refine ⟨fun h => ?_, fun h => ?_⟩
      · have z0 : R = 0 := by grind
        have z1 : (c : Rat) * P2 p = 0 := by rw [z0] at r1; grind
        have := hnear.1 (by grind)
        rw [z1] at this
        rw [z0]
        grind
      · have := hnear.2 (by grind)
        grind
  · intro hr
    have hex : (c : Rat) * P2 p = R := by
      have main : ∀ (cc : Nat) (q : Int), R = (cc : Rat) * P2 q → cc < 2 ^ (k.format.fractionBits + 1) → (c : Rat) * P2 p = R := by
        intro cc q h hlt
        exact hQx (q3 cc q (hRx _ q h) (Nat.lt_of_lt_of_le hlt (Nat.pow_le_pow_right (by decide) (by omega))))
      have zero : R = 0 → (c : Rat) * P2 p = R := fun h => main 0 0 (by rw [h]; show (0 : Rat) = 0 * _; grind) (Nat.two_pow_pos _)
      unfold sgn at hr
      split at hr
      · rcases hr with ⟨cc, q, h, hl, _⟩ | ⟨cc, q, h, hl, _⟩
        · exact zero (by have := val_nonneg cc q; grind)
        · exact main cc q (by grind) hl
      · rcases hr with ⟨cc, q, h, hl, _⟩ | ⟨cc, q, h, hl, _⟩
        · exact main cc q h hl
        · exact zero (by have := val_nonneg cc q; grind)
    rw [hex] at hrep
    exact hrep hr
/-- A word that reads as a number has that number. -/
theorem fin_rep {k : FloatKind} {b : Nat} {x : Rat} (h : Fin k b x) : RepS k x := by
  obtain ⟨s, m, e, hd, rfl⟩ := h
  have key : m < 2 ^ (k.format.fractionBits + 1) ∧ k.format.leastPlace ≤ e := by
    unfold FloatKind.decode Format.read at hd
    simp only at hd
    have hB : (2 : Nat) ^ (k.format.fractionBits + 1) = 2 * k.format.binade := by unfold Format.binade; rw [Nat.pow_succ]; omega
    have hpos : 0 < k.format.binade := Nat.two_pow_pos _
    split at hd
    · injection hd with h1 h2 h3
      omega
    · split at hd
      · injection hd with h1 h2 h3
        have := Nat.mod_lt (b % k.format.signWeight) hpos
        omega
      · split at hd <;> cases hd
  unfold sgn
  cases s with
  | false => exact Or.inl ⟨m, e, rfl, key.1, key.2⟩
  | true => exact Or.inr ⟨m, e, by simp [Rat.neg_neg], key.1, key.2⟩
theorem rep_int (k : FloatKind) (n : Int) (h : n.natAbs < 2 ^ (k.format.fractionBits + 1)) : RepS k (n : Rat) := by
  have hlp : k.format.leastPlace ≤ 0 := by rcases fb_is k with h | h <;> omega
  rcases Int.lt_or_le n 0 with h0 | h0
  · refine Or.inr ⟨n.natAbs, 0, ?_, h, hlp⟩
    rw [← Rat.intCast_neg, ← show ((n.natAbs : Nat) : Int) = -n by omega, Rat.intCast_natCast]
    show _ = _ * (1 : Rat)
    grind
  · refine Or.inl ⟨n.natAbs, 0, ?_, h, hlp⟩
    rw [← Rat.intCast_natCast, show ((n.natAbs : Nat) : Int) = n by omega]
    show _ = _ * (1 : Rat)
    grind
theorem int_abs {n : Int} {c : Nat} (h : n.natAbs ≤ c) : (n : Rat) ≤ (c : Rat) ∧ -(n : Rat) ≤ (c : Rat) := by
  rw [← Rat.intCast_neg, ← Rat.intCast_natCast]
  exact ⟨Rat.intCast_le_intCast.2 (by omega), Rat.intCast_le_intCast.2 (by omega)⟩
/-- A whole number made a float: just it, if it is not too great. -/
theorem ofInt_fin (k : FloatKind) (n : Int) (h : n.natAbs ≤ 16777216) : Fin k (floatOfInt k n) (n : Rat) := by
  have hb : n.natAbs < 2 ^ (k.format.fractionBits + 1) ∨ n.natAbs = 16777216 := by
    rcases fb_is k with ⟨h', _⟩ | ⟨h', _⟩
    · rw [h']; omega
    · rw [h']; exact Or.inl (Nat.lt_of_le_of_lt h (by decide))
  have hc := int_abs h
  have h60 : ((16777216 : Nat) : Rat) ≤ P2 60 := by decide +kernel
  obtain ⟨z, hz, _, hr⟩ := encode_fin k (n < 0) n.natAbs 0 (n : Rat) (by
    unfold sgn
    have e1 : P2 0 = 1 := rfl
    rw [e1]
    by_cases h0 : n < 0
    · rw [decide_eq_true h0, if_pos rfl, ← Rat.intCast_natCast, show ((n.natAbs : Nat) : Int) = -n by omega, Rat.intCast_neg]
      grind
    · rw [decide_eq_false h0, if_neg (by decide), ← Rat.intCast_natCast, show ((n.natAbs : Nat) : Int) = n by omega]
      grind) (by grind) (by grind)
  have hrep : RepS k (n : Rat) := by
    rcases hb with h' | h'
    · exact rep_int k n h'
    · have hlp : k.format.leastPlace ≤ 24 := by rcases fb_is k with h | h <;> omega
      have e24 : P2 24 = ((16777216 : Nat) : Rat) := by decide +kernel
      have one : 1 < 2 ^ (k.format.fractionBits + 1) := Nat.one_lt_two_pow (by omega)
      rcases Int.lt_or_le n 0 with h0 | h0
      · refine Or.inr ⟨1, 24, ?_, one, hlp⟩
        rw [e24, ← Rat.intCast_neg, ← h', ← show ((n.natAbs : Nat) : Int) = -n by omega, Rat.intCast_natCast]
        show _ = (1 : Rat) * _
        grind
      · refine Or.inl ⟨1, 24, ?_, one, hlp⟩
        have e5 : ((n.natAbs : Nat) : Rat) = (n : Rat) := by rw [← Rat.intCast_natCast, show ((n.natAbs : Nat) : Int) = n by omega]
        rw [e24, ← h', e5]
        show _ = (1 : Rat) * _
        grind
  rw [hr hrep] at hz
  exact hz
theorem word_val (s : Bool) (m : Nat) (e : Int) (base : Int) (h : base ≤ e) : ((Ieee.signed s m (e - base).toNat : Int) : Rat) * P2 base = sgn s ((m : Rat) * P2 e) := by
  have := signed_val s m (e - base).toNat base
  rwa [show base + (((e - base).toNat : Nat) : Int) = e by omega] at this
theorem order_fin {k : FloatKind} {a b : Nat} {x y : Rat} (ha : Fin k a x) (hb : Fin k b y) : (k.format.order a b == some .lt) = decide (x < y) ∧ (k.format.order a b == some .eq) = decide (x = y) ∧ (k.format.order a b == some .gt) = decide (y < x) ∧ (k.format.order a b != some .eq) = !decide (x = y) := by
  obtain ⟨s, m, i, hda, rfl⟩ := ha
  obtain ⟨t, n, j, hdb, rfl⟩ := hb
  have e1 := word_val s m i (min i j) (Int.min_le_left ..)
  have e2 := word_val t n j (min i j) (Int.min_le_right ..)
  unfold FloatKind.decode at hda hdb
  have ho : k.format.order a b = some (compare (Ieee.signed s m (i - min i j).toNat) (Ieee.signed t n (j - min i j).toNat)) := by
    unfold Format.order
    rw [hda, hdb]
    rfl
  rw [ho, ← e1, ← e2]
  generalize Ieee.signed s m (i - min i j).toNat = A
  generalize Ieee.signed t n (j - min i j).toNat = B
  have hp := P2_pos (min i j)
  generalize P2 (min i j) = p at *
  have lt_iff : ∀ C D : Int, ((C : Rat) * p < (D : Rat) * p) ↔ C < D := by
    intro C D
    constructor
    · intro h
      rcases Int.lt_or_le C D with h' | h'
      · exact h'
      · have := mul_mono (Rat.intCast_le_intCast.2 h') (Rat.le_of_lt hp)
        grind
    · intro h
      exact Rat.mul_lt_mul_of_pos_right (Rat.intCast_lt_intCast.2 h) hp
  rcases Int.lt_trichotomy A B with h | h | h
  · have h1 := (lt_iff A B).2 h
    have hc : compare A B = .lt := by simp [compare, compareOfLessAndEq, h]
    rw [hc, decide_eq_true h1, decide_eq_false (show ¬ (A : Rat) * p = (B : Rat) * p by grind), decide_eq_false (show ¬ (B : Rat) * p < (A : Rat) * p by grind)]
    exact ⟨rfl, rfl, rfl, rfl⟩
  · subst h
    have hc : compare A A = .eq := by simp [compare, compareOfLessAndEq]
    rw [hc, decide_eq_false (show ¬ (A : Rat) * p < (A : Rat) * p by grind), decide_eq_true rfl]
    exact ⟨rfl, rfl, rfl, rfl⟩
  · have h1 := (lt_iff B A).2 h
    have hc : compare A B = .gt := by simp [compare, compareOfLessAndEq, Int.not_lt.2 (Int.le_of_lt h), show ¬ A = B by omega]
    rw [hc, decide_eq_false (show ¬ (A : Rat) * p < (B : Rat) * p by grind), decide_eq_false (show ¬ (A : Rat) * p = (B : Rat) * p by grind), decide_eq_true h1]
    exact ⟨rfl, rfl, rfl, rfl⟩
/-- float64 of a float32: the same number. -/
theorem widen_fin {b : Nat} {x : Rat} (h : Fin .f32 b x) (h1 : x ≤ P2 60) (h2 : -x ≤ P2 60) : ∃ r, floatToFloatBits .f32 b .f64 = some r ∧ Fin .f64 r x := by
  have hr := fin_rep h
  obtain ⟨s, m, e, hd, rfl⟩ := h
  obtain ⟨z, hz, _, hrep⟩ := encode_fin .f64 s m e _ rfl h1 h2
  have h64 : RepS .f64 (sgn s ((m : Rat) * P2 e)) := by
    have up : ∀ y, Rep .f32 y → Rep .f64 y := by
      rintro y ⟨n, p, hy, hn, hp⟩
      exact ⟨n, p, hy, Nat.lt_of_lt_of_le hn (by decide), Int.le_trans (by decide) hp⟩
    rcases hr with h | h
    · exact Or.inl (up _ h)
    · exact Or.inr (up _ h)
  rw [hrep h64] at hz
  refine ⟨FloatKind.f64.encode (.number s m e), ?_, hz⟩
  unfold floatToFloatBits
  rw [if_neg (by decide), hd]
  simp only
  obtain ⟨s', m', e', hd', _⟩ := hz
  rw [hd']
  simp [Datum.isInfinity]

/-- Near by e. -/
def Cl (z x e : Rat) : Prop := z ≤ x + e ∧ x ≤ z + e
theorem Near.cl {k : FloatKind} {z x B : Rat} (h : Near k z x) (h1 : x ≤ B) (h2 : -x ≤ B) : Cl z x (B * UL k + EL k) := by
  have hU := (UL_small k).1
  have e1 := mul_mono h1 (Rat.le_of_lt hU)
  have e2 := mul_mono h2 (Rat.le_of_lt hU)
  unfold Cl
  rcases (Rat.le_total : (0 : Rat) ≤ x ∨ x ≤ 0) with h0 | h0
  · have := h.1 h0
    grind
  · have := h.2 h0
    grind
theorem Cl.trans {a b c e f : Rat} (h : Cl a b e) (k : Cl b c f) : Cl a c (e + f) := by unfold Cl at *; grind
theorem Cl.mono {a b e f : Rat} (h : Cl a b e) (k : e ≤ f) : Cl a b f := by unfold Cl at *; grind
theorem Cl.refl (a : Rat) {e : Rat} (h : 0 ≤ e) : Cl a a e := by unfold Cl; grind
theorem Cl.add {a b c d e f : Rat} (h : Cl a b e) (k : Cl c d f) : Cl (a + c) (b + d) (e + f) := by unfold Cl at *; grind
/-- times a number that is not above B -/
theorem Cl.mul {v p e x B : Rat} (h : Cl v p e) (h1 : x ≤ B) (h2 : -x ≤ B) (he : 0 ≤ e) : Cl (x * v) (x * p) (B * e) := by
  unfold Cl at *
  rcases (Rat.le_total : (0 : Rat) ≤ x ∨ x ≤ 0) with h0 | h0
  · have a := Rat.mul_le_mul_of_nonneg_left h.1 h0
    have b := Rat.mul_le_mul_of_nonneg_left h.2 h0
    have c := mul_mono h1 he
    grind
  · have h0' : 0 ≤ -x := by grind
    have a := Rat.mul_le_mul_of_nonneg_left h.1 h0'
    have b := Rat.mul_le_mul_of_nonneg_left h.2 h0'
    have c := mul_mono h2 he
    grind
theorem EL_UL (k : FloatKind) : EL k ≤ UL k / 1000 := by
  cases k
  · decide +kernel
  · have h : EL .f64 ≤ P2 (-1000) := P2_le (by decide)
    have h2 : P2 (-1000) ≤ P2 (-63) := P2_le (by decide)
    have h3 : P2 (-63) ≤ P2 (-53) / 1000 := by decide +kernel
    show _ ≤ P2 (-53) / 1000
    grind
theorem P60 : (1152921504606846976 : Rat) = P2 60 ∧ (576460752303423488 : Rat) = P2 59 := by decide +kernel
/-- The quotient of two small whole numbers. -/
theorem quo_near (k : FloatKind) (a b : Int) (h0 : 0 ≤ a) (hab : a ≤ b) (hb : 0 < b) (hb2 : b ≤ 32768) :
    ∃ r z, floatBits .quo k (floatOfInt k a) (floatOfInt k b) = some r ∧ Fin k r z ∧ Cl z ((a : Rat) / (b : Rat)) (3 * UL k) ∧ 0 ≤ z := by
  have fa := ofInt_fin k a (by omega)
  have fb := ofInt_fin k b (by omega)
  have hbp : (0 : Rat) < (b : Rat) := by have := Rat.intCast_lt_intCast.2 hb; exact this
  have hap : (0 : Rat) ≤ (a : Rat) := by have := Rat.intCast_le_intCast.2 h0; exact this
  have hle : (a : Rat) ≤ (b : Rat) := Rat.intCast_le_intCast.2 hab
  have q0 : 0 ≤ (a : Rat) / (b : Rat) := le_div_of hbp (by grind)
  have q1 : (a : Rat) / (b : Rat) ≤ 1 := div_le_of hbp (by grind)
  have hp := P60
  obtain ⟨r, z, hr, hf, hn, _⟩ := div_fin fa fb (by grind) (by grind) (by grind)
  refine ⟨r, z, hr, hf, ?_, (hn.1 q0).2.2⟩
  have hU := UL_small k
  have hE := EL_UL k
  have := hn.1 q0
  have hm := mul_mono q1 (Rat.le_of_lt hU.1)
  unfold Cl
  unfold UD at this
  grind
/-- One more factor. -/
theorem mul_step (k : FloatKind) {bv bf : Nat} {v f P p n : Rat} (fv : Fin k bv v) (ff : Fin k bf f) (hn0 : 0 ≤ n) (hn : n ≤ 3) (hv : Cl v P (n * (5 * UL k))) (hf : Cl f p (3 * UL k))
    (v0 : 0 ≤ v) (f0 : 0 ≤ f) (P0 : 0 ≤ P) (P1 : P ≤ 1) (p0 : 0 ≤ p) (p1 : p ≤ 1) :
    ∃ r z, floatBits .mul k bv bf = some r ∧ Fin k r z ∧ Cl z (P * p) ((n + 1) * (5 * UL k)) ∧ 0 ≤ z ∧ 0 ≤ P * p ∧ P * p ≤ 1 := by
  have hU := UL_small k
  have hE := EL_UL k
  have hnU : n * (5 * UL k) ≤ 3 * (5 * UL k) := mul_mono hn (by grind)
  have hv2 : v ≤ 2 := by unfold Cl at hv; grind
  have hf2 : f ≤ 1 + 3 * UL k := by unfold Cl at hf; grind
  have vf0 : 0 ≤ v * f := Rat.mul_nonneg v0 f0
  have vfle : v * f ≤ (1 + 15 * UL k) * (1 + 3 * UL k) := by
    have a := Rat.mul_le_mul_of_nonneg_left hf2 v0
    have b := mul_mono (show v ≤ 1 + 15 * UL k by unfold Cl at hv; grind) (show 0 ≤ 1 + 3 * UL k by grind)
    grind
  have hUU : UL k * UL k ≤ UL k * (1 / 16777216) := Rat.mul_le_mul_of_nonneg_left hU.2 (Rat.le_of_lt hU.1)
  have vfle2 : v * f ≤ 1 + 1 / 100 := by grind
  have hp := P60
  obtain ⟨r, z, hr, hz, hnear, _⟩ := mul_fin fv ff (by grind) (by grind)
  have c1 := hnear.cl (B := 1 + 1 / 100) vfle2 (by grind)
  -- v f against P p
  have c2 : Cl (f * v) (f * P) ((1 + 3 * UL k) * (n * (5 * UL k))) := hv.mul hf2 (by grind) (Rat.mul_nonneg hn0 (by grind))
  have c3 : Cl (P * f) (P * p) (1 * (3 * UL k)) := hf.mul P1 (by grind) (by grind)
  rw [Rat.mul_comm f v, Rat.mul_comm f P] at c2
  have c4 := (c1.trans c2).trans c3
  have PP0 := Rat.mul_nonneg P0 p0
  have PP1 : P * p ≤ 1 := by
    have := Rat.mul_le_mul_of_nonneg_left p1 P0
    grind
  refine ⟨r, z, hr, hz, c4.mono ?_, (hnear.1 vf0).2.2, PP0, PP1⟩
  have hnn : 3 * UL k * (n * (5 * UL k)) ≤ UL k / 100 := by
    have a := Rat.mul_le_mul_of_nonneg_left hnU (show 0 ≤ 3 * UL k by grind)
    grind
  grind
/-- One more term of a sum. -/
theorem acc_step (k : FloatKind) {ba bt : Nat} {a A t T X ax n : Rat} (fa : Fin k ba a) (ft : Fin k bt t) (hn0 : 0 ≤ n) (hn : n ≤ 4)
    (ha : Cl a A (X * ((17 + 2 * n) * UL k) + n * (4 * UL k))) (ht : Cl t T (ax * (17 * UL k) + EL k)) (X0 : 0 ≤ X) (ax0 : 0 ≤ ax) (hX : X ≤ 200000) (hx : ax ≤ 40000) (A1 : A ≤ X) (A2 : -A ≤ X) (T1 : T ≤ ax) (T2 : -T ≤ ax) :
    ∃ r z, floatBits .add k ba bt = some r ∧ Fin k r z ∧ Cl z (A + T) ((X + ax) * ((17 + 2 * (n + 1)) * UL k) + (n + 1) * (4 * UL k)) := by
  have hU := UL_small k
  have hE := EL_UL k
  have hnU : (17 + 2 * n) * UL k ≤ 25 * UL k := mul_mono (by grind) (Rat.le_of_lt hU.1)
  have hXe : X * ((17 + 2 * n) * UL k) ≤ X * (1 / 100) := Rat.mul_le_mul_of_nonneg_left (by grind) X0
  have haxe : ax * (17 * UL k) ≤ ax * (1 / 100) := Rat.mul_le_mul_of_nonneg_left (by grind) ax0
  have hn4 : n * (4 * UL k) ≤ 4 * (4 * UL k) := mul_mono hn (by grind)
  have b1 : a + t ≤ 2 * (X + ax) + 1 := by unfold Cl at ha ht; grind
  have b2 : -(a + t) ≤ 2 * (X + ax) + 1 := by unfold Cl at ha ht; grind
  have hp := P60
  obtain ⟨r, z, hr, hz, hnear, _⟩ := add_fin fa ft (by grind) (by grind)
  have c1 := hnear.cl b1 b2
  have c2 := ha.add ht
  refine ⟨r, z, hr, hz, (c1.trans c2).mono ?_⟩
  have e1 : (X + ax) * ((17 + 2 * (n + 1)) * UL k) = X * ((17 + 2 * n) * UL k) + ax * (17 * UL k) + 2 * X * UL k + 2 * ax * UL k + 2 * (ax * (n * UL k)) := by grind
  have e2 : 0 ≤ ax * (n * UL k) := Rat.mul_nonneg ax0 (Rat.mul_nonneg hn0 (Rat.le_of_lt hU.1))
  grind
/-- A term: a whole number times a factor. -/
theorem term_step (k : FloatKind) {bv bx : Nat} {v P x ax : Rat} (fvv : Fin k bv v) (fx : Fin k bx x) (hv : Cl v P (15 * UL k)) (P0 : 0 ≤ P) (P1 : P ≤ 1) (x1 : x ≤ ax) (x2 : -x ≤ ax) (hx : ax ≤ 40000) :
    (∃ r z, floatBits .mul k bx bv = some r ∧ Fin k r z ∧ Cl z (x * P) (ax * (17 * UL k) + EL k)) ∧ (∃ r z, floatBits .mul k bv bx = some r ∧ Fin k r z ∧ Cl z (x * P) (ax * (17 * UL k) + EL k)) ∧ x * P ≤ ax ∧ -(x * P) ≤ ax := by
  have hU := UL_small k
  have hE := EL_UL k
  have ax0 : 0 ≤ ax := by grind
  have v1 : v ≤ 2 := by unfold Cl at hv; grind
  have v2 : -v ≤ 2 := by unfold Cl at hv; grind
  have xv := (Cl.mul (v := v) (p := 0) (e := 2) (x := x) (B := ax) (by unfold Cl; grind) x1 x2 (by grind))
  have xP := (Cl.mul (v := P) (p := 0) (e := 1) (x := x) (B := ax) (by unfold Cl; grind) x1 x2 (by grind))
  have b1 : x * v ≤ ax * 2 := by unfold Cl at xv; grind
  have b2 : -(x * v) ≤ ax * 2 := by unfold Cl at xv; grind
  have c2 : Cl (x * v) (x * P) (ax * (15 * UL k)) := hv.mul x1 x2 (by grind)
  have hp := P60
  have key : ∀ z, Near k z (x * v) → Cl z (x * P) (ax * (17 * UL k) + EL k) := fun z hn => ((hn.cl b1 b2).trans c2).mono (by grind)
  refine ⟨?_, ?_, by unfold Cl at xP; grind, by unfold Cl at xP; grind⟩
  · obtain ⟨r, z, hr, hz, hnear, _⟩ := mul_fin fx fvv (by grind) (by grind)
    exact ⟨r, z, hr, hz, key z hnear⟩
  · obtain ⟨r, z, hr, hz, hnear, _⟩ := mul_fin fvv fx (by grind) (by grind)
    rw [Rat.mul_comm v x] at hnear
    exact ⟨r, z, hr, hz, key z hnear⟩

/-! ### the sign turned -/
theorem neg_fin {k : FloatKind} {b : Nat} {x : Rat} (h : Fin k b x) : Fin k (Go.Op.negFloat k b) (-x) := by
  obtain ⟨s, m, e, hd, rfl⟩ := h
  refine ⟨!s, m, e, ?_, by unfold sgn; cases s <;> simp⟩
  have hw : k.format.signWeight = 2 ^ (k.format.exponentBits + k.format.fractionBits) := rfl
  have h1 : (b ^^^ 2 ^ (k.format.exponentBits + k.format.fractionBits)) % k.format.signWeight = b % k.format.signWeight := by
    rw [hw, Nat.xor_mod_two_pow, Nat.mod_self, Nat.xor_zero]
  have h2 : ((b ^^^ 2 ^ (k.format.exponentBits + k.format.fractionBits)) / k.format.signWeight % 2 == 1) = !(b / k.format.signWeight % 2 == 1) := by
    have t1 := Nat.testBit_eq_decide_div_mod_eq (x := b ^^^ 2 ^ (k.format.exponentBits + k.format.fractionBits)) (i := k.format.exponentBits + k.format.fractionBits)
    have t2 := Nat.testBit_eq_decide_div_mod_eq (x := b) (i := k.format.exponentBits + k.format.fractionBits)
    rw [Nat.testBit_xor, Nat.testBit_two_pow_self] at t1
    rw [hw]
    show decide _ = !decide _
    rw [← t1, ← t2]
    simp
  unfold FloatKind.decode at hd ⊢
  unfold Go.Op.negFloat
  unfold Format.read at hd ⊢
  simp only [h1, h2]
  simp only at hd
  split at hd
  · rename_i c
    rw [if_pos c]
    injection hd with a1 a2 a3
    rw [a1, a2, a3]
  · rename_i c
    rw [if_neg c]
    split at hd
    · rename_i c2
      rw [if_pos c2]
      injection hd with a1 a2 a3
      rw [a1, a2, a3]
    · split at hd <;> cases hd

end Go.Proofs.Ytlbmfnjhpojghaa.Flt
namespace Go.Proofs.Ytlbmfnjhpojghaa.Pure
open Go.RowKit Go.Proofs.Ytlbmfnjhpojghaa.Flt Go.Proofs.Ytlbmfnjhpojghaa.PFnAdvanceDelta Go.Proofs.YtlbmfnjhpojghaaW Go.Proofs.YtlbmfnjhpojghaaW.PrintWords Go.Proofs.YtlbmfnjhpojghaaW.PrintLast Go.Proofs.YtlbmfnjhpojghaaW.PrintMore

theorem w64 (n : Int) (h : -9223372036854775808 ≤ n ∧ n ≤ 9223372036854775807) : wrap64 n = n := by unfold wrap64; omega
theorem i16w (n : Int) (h : -32768 ≤ n ∧ n ≤ 32767) : IntKind.i16.wrap n = n := by simp only [IntKind.wrap, IntKind.bits, IntKind.signed]; simp; omega
theorem u16w (n : Int) (h : 0 ≤ n ∧ n ≤ 65535) : IntKind.u16.wrap n = n := by simp only [IntKind.wrap, IntKind.bits, IntKind.signed]; simp; omega
/-- It ends, and its answer is as said. -/
def EvP {α : Type} (g : Nat → Option α) (Q : α → Prop) : Prop := ∃ r, Ev g r ∧ Q r
theorem EvP.now {α : Type} {Q : α → Prop} (r : α) (h : Q r) : EvP (fun _ => some r) Q := ⟨r, Ev.now r, h⟩
theorem EvP.step {α : Type} {g f : Nat → Option α} {Q : α → Prop} (h : ∀ k, g (k + 1) = f k) (k : EvP f Q) : EvP g Q := by
  obtain ⟨r, hr, hq⟩ := k
  exact ⟨r, Ev.step h hr, hq⟩
theorem EvP.congr {α : Type} {g f : Nat → Option α} {Q : α → Prop} (h : ∀ k, g k = f k) (k : EvP f Q) : EvP g Q := by
  obtain ⟨r, hr, hq⟩ := k
  exact ⟨r, Ev.congr h hr, hq⟩
theorem EvP.pos {α : Type} {c : Prop} [Decidable c] {g f : Nat → Option α} {Q : α → Prop} (hc : c) (h : EvP g Q) : EvP (fun k => if c then g k else f k) Q := EvP.congr (fun _ => if_pos hc) h
theorem EvP.neg {α : Type} {c : Prop} [Decidable c] {g f : Nat → Option α} {Q : α → Prop} (hc : ¬ c) (h : EvP f Q) : EvP (fun k => if c then g k else f k) Q := EvP.congr (fun _ => if_neg hc) h
theorem EvP.bind {α β : Type} {g : Nat → Option α} {f : Nat → α → Option β} {a : α} {Q : β → Prop} (h : Ev g a) (k : EvP (fun n => f n a) Q) : EvP (fun n => (g n).bind (f n)) Q := by
  obtain ⟨r, hr, hq⟩ := k
  exact ⟨r, Ev.bind h hr, hq⟩
theorem EvP.bindP {α β : Type} {g : Nat → Option α} {f : Nat → α → Option β} {P : α → Prop} {Q : β → Prop} (h : EvP g P) (k : ∀ a, P a → EvP (fun n => f n a) Q) : EvP (fun n => (g n).bind (f n)) Q := by
  obtain ⟨a, ha, hp⟩ := h
  exact EvP.bind ha (k a hp)
theorem EvP.mono {α : Type} {g : Nat → Option α} {P Q : α → Prop} (h : EvP g P) (k : ∀ a, P a → Q a) : EvP g Q := by
  obtain ⟨a, ha, hp⟩ := h
  exact ⟨a, ha, k a hp⟩
theorem Ev.const {α : Type} {a : Option α} {r : α} (h : a = some r) : Ev (fun _ => a) r := ⟨0, fun _ _ => h⟩
/-! floats -/
theorem fv_of {op : BinOp} {k : FloatKind} {x y r : Nat} (h : floatBits op k x y = some r) : fok op k x y = true ∧ fv op k x y = r := by
  unfold fok fv
  rw [h]
  exact ⟨rfl, rfl⟩
theorem one32 : Fin .f32 1065353216 1 := ⟨false, 8388608, -23, by decide, by unfold sgn; decide +kernel⟩
theorem zero32 : Fin .f32 0 0 := ⟨false, 0, -149, by decide, by unfold sgn; simp⟩
theorem one64 : Fin .f64 4607182418800017408 1 := ⟨false, 4503599627370496, -52, by decide, by unfold sgn; decide +kernel⟩
theorem zero64 : Fin .f64 0 0 := ⟨false, 0, -1074, by decide, by unfold sgn; simp⟩
/-- An axis of a region: in order, on one side of 0. -/
structure Ax (x : S36) : Prop where
  lo : -16384 ≤ x.f0
  a : x.f0 ≤ x.f1
  b : x.f1 ≤ x.f2
  hi : x.f2 ≤ 16384
  side : 0 ≤ x.f0 ∨ x.f2 ≤ 0
/-- How much of the region counts on an axis. -/
def phi (x : S36) (c : Int) : Rat :=
  if x.f1 = 0 ∨ c = x.f1 then 1 else if c ≤ x.f0 ∨ x.f2 ≤ c then 0 else if c < x.f1 then ((c - x.f0 : Int) : Rat) / ((x.f1 - x.f0 : Int) : Rat) else ((x.f2 - c : Int) : Rat) / ((x.f2 - x.f1 : Int) : Rat)
theorem quo01 {a b : Int} (h0 : 0 ≤ a) (h1 : a ≤ b) (hb : 0 < b) : 0 ≤ (a : Rat) / (b : Rat) ∧ (a : Rat) / (b : Rat) ≤ 1 := by
  have hbp : (0 : Rat) < (b : Rat) := Rat.intCast_lt_intCast.2 hb
  have hap : (0 : Rat) ≤ (a : Rat) := Rat.intCast_le_intCast.2 h0
  have hle : (a : Rat) ≤ (b : Rat) := Rat.intCast_le_intCast.2 h1
  exact ⟨le_div_of hbp (by grind), div_le_of hbp (by grind)⟩
theorem phi01 (x : S36) (c : Int) : 0 ≤ phi x c ∧ phi x c ≤ 1 := by
  unfold phi
  split
  · exact ⟨by grind, by grind⟩
  · rename_i h1
    split
    · exact ⟨by grind, by grind⟩
    · rename_i h2
      split
      · exact quo01 (by omega) (by omega) (by omega)
      · exact quo01 (by omega) (by omega) (by omega)
theorem U3 (k : FloatKind) : 0 ≤ 3 * UL k := by have := (UL_small k).1; grind
theorem evaluate_is {x : S36} (h : Ax x) {c : Int} :
    ∃ t f, Ev (fun k => tables_RegionAxisCoordinates_evaluate.f k x.f0 x.f1 x.f2 c) t ∧ Fin .f32 t f ∧ Cl f (phi x c) (3 * UL .f32) ∧ 0 ≤ f := by
  obtain ⟨h0, h1, h2, h3, h4⟩ := h
  have c1 : Cl 1 1 (3 * UL .f32) := Cl.refl _ (U3 _)
  have c0 : Cl 0 0 (3 * UL .f32) := Cl.refl _ (U3 _)
  unfold tables_RegionAxisCoordinates_evaluate.f
  have tru : Ev (fun k => tables_RegionAxisCoordinates_evaluate.j0 k c x.f0 x.f1 x.f2 true) 1065353216 := Ev.step (f := fun _ => some 1065353216) (fun k => by rw [tables_RegionAxisCoordinates_evaluate.j0, if_pos rfl]) (Ev.now _)
  by_cases e1 : x.f1 = 0
  · exact ⟨_, 1, Ev.congr (fun k => if_pos e1) tru, one32, by unfold phi; rw [if_pos (Or.inl e1)]; exact c1, by grind⟩
  by_cases e2 : c = x.f1
  · have : (c == x.f1) = true := by simpa using e2
    rw [this]
    exact ⟨_, 1, Ev.congr (fun k => if_neg e1) tru, one32, by unfold phi; rw [if_pos (Or.inr e2)]; exact c1, by grind⟩
  have hb : (c == x.f1) = false := by simpa using e2
  rw [hb]
  have hphi : phi x c = if c ≤ x.f0 ∨ x.f2 ≤ c then 0 else if c < x.f1 then ((c - x.f0 : Int) : Rat) / ((x.f1 - x.f0 : Int) : Rat) else ((x.f2 - c : Int) : Rat) / ((x.f2 - x.f1 : Int) : Rat) := by unfold phi; rw [if_neg (by omega)]
  rw [hphi]
  have red : ∀ t, (∀ k, tables_RegionAxisCoordinates_evaluate.j0 (k + 1) c x.f0 x.f1 x.f2 false = some t) → Ev (fun k => if x.f1 = 0 then tables_RegionAxisCoordinates_evaluate.j0 k c x.f0 x.f1 x.f2 true else tables_RegionAxisCoordinates_evaluate.j0 k c x.f0 x.f1 x.f2 false) t :=
    fun t ht => Ev.congr (fun k => if_neg e1) (Ev.step (f := fun _ => some t) ht (Ev.now _))
  by_cases z1 : c ≤ x.f0 ∨ x.f2 ≤ c
  · rw [if_pos z1]
    refine ⟨0, 0, red 0 (fun k => ?_), zero32, c0, by grind⟩
    rw [tables_RegionAxisCoordinates_evaluate.j0, if_neg (by decide)]
    by_cases y1 : c = 0
    · rw [if_pos y1]
    rw [if_neg y1]
    by_cases y2 : c ≤ x.f0
    · rw [if_pos y2]
    rw [if_neg y2, if_pos (by omega)]
  rw [if_neg z1]
  by_cases z2 : c < x.f1
  · rw [if_pos z2]
    obtain ⟨r, z, hr, hz, hcl, hp⟩ := quo_near .f32 (c - x.f0) (x.f1 - x.f0) (by omega) (by omega) (by omega) (by omega)
    obtain ⟨o1, o2⟩ := fv_of hr
    refine ⟨r, z, red r (fun k => ?_), hz, hcl, hp⟩
    rw [tables_RegionAxisCoordinates_evaluate.j0, if_neg (by decide), if_neg (by omega), if_neg (by omega), if_neg (by omega), if_pos z2, i16w _ (by omega), i16w _ (by omega), if_pos o1, o2]
  · rw [if_neg z2]
    obtain ⟨r, z, hr, hz, hcl, hp⟩ := quo_near .f32 (x.f2 - c) (x.f2 - x.f1) (by omega) (by omega) (by omega) (by omega)
    obtain ⟨o1, o2⟩ := fv_of hr
    refine ⟨r, z, red r (fun k => ?_), hz, hcl, hp⟩
    rw [tables_RegionAxisCoordinates_evaluate.j0, if_neg (by decide), if_neg (by omega), if_neg (by omega), if_neg (by omega), if_neg z2, i16w _ (by omega), i16w _ (by omega), if_pos o1, o2]
/-- The product over the first axes. -/
def PhiN (R : List S36) (C : List Int) : Nat → Rat
  | 0 => 1
  | n + 1 => PhiN R C n * phi (R.getD n z36) (C.getD n 0)
structure Reg (R : List S36) (n : Nat) : Prop where
  len : R.length = n
  ax : ∀ j, j < n → Ax (R.getD j z36)
structure Crd (C : List Int) (n : Nat) : Prop where
  len : C.length = n
  ok : ∀ j, j < n → -16384 ≤ C.getD j 0 ∧ C.getD j 0 ≤ 16384
theorem PhiN01 {R : List S36} {C : List Int} : ∀ i, 0 ≤ PhiN R C i ∧ PhiN R C i ≤ 1
  | 0 => ⟨by unfold PhiN; grind, by unfold PhiN; grind⟩
  | i + 1 => by
    have ih := PhiN01 (R := R) (C := C) i
    have hp := phi01 (R.getD i z36) (C.getD i 0)
    unfold PhiN
    refine ⟨Rat.mul_nonneg ih.1 hp.1, ?_⟩
    have := Rat.mul_le_mul_of_nonneg_left hp.2 ih.1
    grind
def conv (x : S36) : S184 := ⟨x.f0, x.f1, x.f2⟩
theorem rd_nat (xs : List Int) (i : Nat) : rd xs (i : Int) = xs.getD i 0 := by unfold rd; rw [Int.toNat_natCast]
theorem rd184 (R : List S36) (i : Nat) : rd_T184 (R.map conv) (i : Int) = conv (R.getD i z36) := by
  unfold rd_T184
  rw [Int.toNat_natCast]
  simp only [List.getD_eq_getElem?_getD, List.getElem?_map]
  cases R[i]? <;> rfl
theorem natR (i : Nat) : ((i + 1 : Nat) : Rat) = (i : Rat) + 1 := by rw [Rat.natCast_add]; rfl
theorem natR_le {i n : Nat} (h : i ≤ n) : (i : Rat) ≤ (n : Rat) := Rat.natCast_le_natCast.2 h
theorem evalR {R : List S36} {C : List Int} {n : Nat} (hR : Reg R n) (hC : Crd C n) (hn : n ≤ 3) : ∀ d i : Nat, i + d = n → ∀ bv v, Fin .f32 bv v → Cl v (PhiN R C i) ((i : Rat) * (5 * UL .f32)) → 0 ≤ v →
    EvP (fun k => tables_VariationRegion_Evaluate.l0 k bv C (C.length : Int) (i : Int) (R.map conv)) (fun r => ∃ z, Fin .f32 r z ∧ Cl z (PhiN R C n) ((n : Rat) * (5 * UL .f32)) ∧ 0 ≤ z)
  | 0, i, hi, bv, v, hf, hcl, h0 => by
    obtain rfl : i = n := by omega
    refine EvP.step (f := fun _ => some bv) (fun k => ?_) (EvP.now _ ⟨v, hf, hcl, h0⟩)
    rw [tables_VariationRegion_Evaluate.l0, if_neg (by rw [hC.len]; omega)]
  | d + 1, i, hi, bv, v, hf, hcl, h0 => by
    obtain ⟨t, f, ht, hft, hct, hf0⟩ := evaluate_is (c := C.getD i 0) (hR.ax i (by omega))
    have hP := PhiN01 (R := R) (C := C) i
    have hp := phi01 (R.getD i z36) (C.getD i 0)
    have hn3 := natR_le (show i ≤ 3 by omega)
    obtain ⟨r, z, hr, hz, hc2, hz0, _, _⟩ := mul_step .f32 hf hft Rat.natCast_nonneg hn3 hcl hct h0 hf0 hP.1 hP.2 hp.1 hp.2
    obtain ⟨o1, o2⟩ := fv_of hr
    have ih := evalR hR hC hn d (i + 1) (by omega) r z hz (by rw [natR]; exact hc2) hz0
    refine EvP.step (f := fun k => (tables_RegionAxisCoordinates_evaluate.f k (conv (R.getD i z36)).f0 (conv (R.getD i z36)).f1 (conv (R.getD i z36)).f2 (C.getD i 0)).bind fun t238 => (if fok .mul .f32 bv t238 = true then (tables_VariationRegion_Evaluate.l0 k (fv .mul .f32 bv t238) C (C.length : Int) ((i + 1 : Nat) : Int) (R.map conv)) else (none))) (fun k => ?_) (EvP.bind ht (EvP.pos o1 (by rw [o2]; exact ih)))
    have hl := hC.len
    have hlR := hR.len
    rw [tables_VariationRegion_Evaluate.l0, if_pos (by omega), if_pos (by omega), if_pos (by omega), if_pos (by rw [List.length_map]; omega), rd184, rd_nat, w64 _ (by omega)]
    rfl

/-- The sum of the first terms, and of their sizes. -/
def SumN (xs : List Int) (P : Nat → Rat) : Nat → Rat
  | 0 => 0
  | n + 1 => SumN xs P n + (xs.getD n 0 : Rat) * P n
def AbsN (xs : List Int) : Nat → Nat
  | 0 => 0
  | n + 1 => AbsN xs n + (xs.getD n 0).natAbs
theorem int_le_abs (x : Int) : (x : Rat) ≤ (x.natAbs : Rat) ∧ -(x : Rat) ≤ (x.natAbs : Rat) := int_abs (Nat.le_refl _)
theorem SumN_abs {xs : List Int} {P : Nat → Rat} (hP : ∀ j, 0 ≤ P j ∧ P j ≤ 1) : ∀ n, SumN xs P n ≤ (AbsN xs n : Rat) ∧ -SumN xs P n ≤ (AbsN xs n : Rat)
  | 0 => by
    unfold SumN AbsN
    exact ⟨by show (0 : Rat) ≤ 0; grind, by show -(0 : Rat) ≤ 0; grind⟩
  | n + 1 => by
    have ih := SumN_abs (xs := xs) hP n
    have a := int_le_abs (xs.getD n 0)
    have q := Cl.mul (v := P n) (p := 0) (e := 1) (x := (xs.getD n 0 : Rat)) (B := ((xs.getD n 0).natAbs : Rat)) (by have := hP n; unfold Cl; grind) a.1 a.2 (by grind)
    unfold SumN AbsN
    rw [Rat.natCast_add]
    unfold Cl at q
    grind
theorem AbsN_le {xs : List Int} {c : Nat} (h : ∀ j, (xs.getD j 0).natAbs ≤ c) : ∀ n, AbsN xs n ≤ n * c
  | 0 => by unfold AbsN; omega
  | n + 1 => by
    have ih := AbsN_le h n
    have := h n
    unfold AbsN
    rw [Nat.add_mul]
    omega
/-- How near a sum of n terms is. -/
def bd (k : FloatKind) (X n : Nat) : Rat := (X : Rat) * ((17 + 2 * (n : Rat)) * UL k) + (n : Rat) * (4 * UL k)
structure Row (xs : List Int) : Prop where
  ok : ∀ j, (xs.getD j 0).natAbs ≤ 32768
/-- One more term: both orders of the product. -/
theorem sum_step (k : FloatKind) {xs : List Int} (hx : Row xs) {P : Nat → Rat} (hP : ∀ j, 0 ≤ P j ∧ P j ≤ 1) {i : Nat} (hi : i ≤ 4) {ba bv : Nat} {a v : Rat} (fa : Fin k ba a) (hv : Fin k bv v) (ha : Cl a (SumN xs P i) (bd k (AbsN xs i) i)) (hcl : Cl v (P i) (15 * UL k)) :
    (∃ t r z, floatBits .mul k (floatOfInt k (xs.getD i 0)) bv = some t ∧ floatBits .add k ba t = some r ∧ Fin k r z ∧ Cl z (SumN xs P (i + 1)) (bd k (AbsN xs (i + 1)) (i + 1))) ∧
    (∃ t r z, floatBits .mul k bv (floatOfInt k (xs.getD i 0)) = some t ∧ floatBits .add k ba t = some r ∧ Fin k r z ∧ Cl z (SumN xs P (i + 1)) (bd k (AbsN xs (i + 1)) (i + 1))) := by
  have hb := hx.ok i
  have fx := ofInt_fin k (xs.getD i 0) (by omega)
  have a1 := int_le_abs (xs.getD i 0)
  have hax : ((xs.getD i 0).natAbs : Rat) ≤ 40000 := Rat.le_trans (Rat.natCast_le_natCast.2 hb) (show ((32768 : Nat) : Rat) ≤ 40000 by decide +kernel)
  obtain ⟨t1, t2, t3, t4⟩ := term_step k hv fx hcl (hP i).1 (hP i).2 a1.1 a1.2 hax
  have hX : (AbsN xs i : Rat) ≤ 200000 := by
    have h1 := AbsN_le hx.ok i
    have h2 : i * 32768 ≤ 4 * 32768 := Nat.mul_le_mul_right _ hi
    exact Rat.le_trans (Rat.natCast_le_natCast.2 (show AbsN xs i ≤ 131072 by omega)) (show ((131072 : Nat) : Rat) ≤ 200000 by decide +kernel)
  have hS := SumN_abs (xs := xs) hP i
  have hi4 : (i : Rat) ≤ 4 := natR_le hi
  have fin : ∀ t y, Fin k t y → Cl y ((xs.getD i 0 : Rat) * P i) (((xs.getD i 0).natAbs : Rat) * (17 * UL k) + EL k) → ∃ r z, floatBits .add k ba t = some r ∧ Fin k r z ∧ Cl z (SumN xs P (i + 1)) (bd k (AbsN xs (i + 1)) (i + 1)) := by
    intro t y ft hy
    obtain ⟨r, z, hr, hz, hc⟩ := acc_step k fa ft Rat.natCast_nonneg hi4 ha hy Rat.natCast_nonneg Rat.natCast_nonneg hX hax hS.1 hS.2 t3 t4
    refine ⟨r, z, hr, hz, ?_⟩
    unfold bd AbsN
    rw [Rat.natCast_add, natR]
    exact hc
  obtain ⟨t, y, ht, fty, hc⟩ := t1
  obtain ⟨t', y', ht', fty', hc'⟩ := t2
  obtain ⟨r, z, h1, h2, h3⟩ := fin t y fty hc
  obtain ⟨r', z', h1', h2', h3'⟩ := fin t' y' fty' hc'
  exact ⟨⟨t, r, z, ht, h1, h2, h3⟩, ⟨t', r', z', ht', h1', h2', h3'⟩⟩
theorem bd0 (k : FloatKind) : bd k 0 0 = 0 := by unfold bd; show (0 : Rat) * _ + 0 * _ = 0; grind
/-- The regions of a store, and one list's numbers. -/
structure Sto (all : List (List S36)) (n : Nat) : Prop where
  reg : ∀ j, j < all.length → Reg (all.getD j []) n
  few : all.length ≤ 6
structure Ixs (rs : List Int) (m : Nat) : Prop where
  few : rs.length ≤ 5
  ok : ∀ j, j < rs.length → 0 ≤ rs.getD j 0 ∧ rs.getD j 0 < (m : Int)
def wgt (all : List (List S36)) (rs C : List Int) (n : Nat) (j : Nat) : Rat := PhiN (all.getD (rs.getD j 0).toNat []) C n
theorem wgt01 (all : List (List S36)) (rs C : List Int) (n : Nat) : ∀ j, 0 ≤ wgt all rs C n j ∧ wgt all rs C n j ≤ 1 := fun _ => PhiN01 n
def cvs (all : List (List S36)) : List S182 := all.map fun R => ⟨R.map conv⟩
theorem rd182 (all : List (List S36)) (i : Int) : rd_T182 (cvs all) i = ⟨(all.getD i.toNat []).map conv⟩ := by
  unfold rd_T182 cvs
  simp only [List.getD_eq_getElem?_getD, List.getElem?_map]
  cases all[i.toNat]? <;> rfl
theorem u15 (k : FloatKind) {n : Nat} (hn : n ≤ 3) : (n : Rat) * (5 * UL k) ≤ 15 * UL k := by
  have h := natR_le hn
  have hU := (UL_small k).1
  have := mul_mono h (show 0 ≤ 5 * UL k by grind)
  have e : ((3 : Nat) : Rat) = 3 := rfl
  grind
theorem getDelta_loop {all : List (List S36)} {rs C xs : List Int} {n : Nat} {ds : List S186} (hS : Sto all n) (hI : Ixs rs all.length) (hC : Crd C n) (hn : n ≤ 3) (hx : Row xs) (hlen : xs.length = rs.length) : ∀ d i : Nat, i + d = rs.length → ∀ ba a, Fin .f32 ba a → Cl a (SumN xs (wgt all rs C n) i) (bd .f32 (AbsN xs i) i) →
    EvP (fun k => tables_ItemVarStore_GetDelta.l0 k C xs ba rs (rs.length : Int) (i : Int) 0 0 (cvs all) ds) (fun r => ∃ z, Fin .f32 r z ∧ Cl z (SumN xs (wgt all rs C n) rs.length) (bd .f32 (AbsN xs rs.length) rs.length))
  | 0, i, hi, ba, a, hf, hcl => by
    obtain rfl : i = rs.length := by omega
    refine EvP.step (f := fun _ => some ba) (fun k => ?_) (EvP.now _ ⟨a, hf, hcl⟩)
    rw [tables_ItemVarStore_GetDelta.l0, if_neg (by omega)]
  | d + 1, i, hi, ba, a, hf, hcl => by
    have hr := hI.ok i (by omega)
    have hfew := hI.few
    have hR := hS.reg (rs.getD i 0).toNat (by omega)
    have h1 := evalR hR hC hn n 0 (by omega) 1065353216 1 one32 (by unfold PhiN; refine Cl.refl _ ?_; show (0 : Rat) ≤ 0 * _; grind) (by grind)
    have ev : EvP (fun k => tables_VariationRegion_Evaluate.f k ((rd_T182 (cvs all) (rs.getD i 0)).f0) C) (fun r => ∃ z, Fin .f32 r z ∧ Cl z (wgt all rs C n i) (15 * UL .f32)) := by
      rw [rd182]
      refine EvP.mono h1 ?_
      rintro r ⟨z, hz, hc, _⟩
      exact ⟨z, hz, hc.mono (u15 _ hn)⟩
    refine EvP.step (f := fun k => (tables_VariationRegion_Evaluate.f k ((rd_T182 (cvs all) (rs.getD i 0)).f0) C).bind fun t247 => (if fok .mul .f32 (floatOfInt .f32 (xs.getD i 0)) t247 = true then (if fok .add .f32 ba (fv .mul .f32 (floatOfInt .f32 (xs.getD i 0)) t247) = true then (tables_ItemVarStore_GetDelta.l0 k C xs (fv .add .f32 ba (fv .mul .f32 (floatOfInt .f32 (xs.getD i 0)) t247)) rs (rs.length : Int) ((i + 1 : Nat) : Int) 0 0 (cvs all) ds) else (none)) else (none))) (fun k => ?_) (EvP.bindP ev ?_)
    · rw [tables_ItemVarStore_GetDelta.l0, if_pos (by omega), if_pos (by omega), if_pos (by omega), rd_nat, rd_nat, if_pos hr.1, if_pos (by unfold cvs; rw [List.length_map]; exact hr.2), w64 _ (by omega)]
      have hxl : (i : Int) < (xs.length : Int) := by omega
      simp only [if_pos hxl]
      rfl
    · rintro t ⟨z, hz, hc⟩
      obtain ⟨⟨p, r, y, q1, q2, q3, q4⟩, _⟩ := sum_step .f32 hx (wgt01 all rs C n) (show i ≤ 4 by omega) hf hz hcl hc
      obtain ⟨o1, o2⟩ := fv_of q1
      rw [o2] at *
      obtain ⟨o3, o4⟩ := fv_of q2
      refine EvP.pos o1 (EvP.pos (by rw [o2]; exact o3) ?_)
      rw [o2, o4]
      exact getDelta_loop hS hI hC hn hx hlen d (i + 1) (by omega) r y q3 q4

theorem w64s (i : Nat) (h : i ≤ 1000) : wrap64 ((i : Int) + 1) = ((i + 1 : Nat) : Int) := by rw [w64 _ (by omega)]; rfl
theorem rd36 (R : List S36) (i : Nat) : rd_T36 R (i : Int) = R.getD i z36 := by unfold rd_T36; rw [Int.toNat_natCast]
theorem rdL8 (all : List (List S36)) (i : Int) : rd_L8 all i = all.getD i.toNat [] := rfl
theorem cl_n {k : FloatKind} {v P : Rat} {i : Nat} (h : Cl v P ((i : Rat) * (5 * UL k))) : Cl v P (((i + 1 : Nat) : Rat) * (5 * UL k)) := by
  have hU := (UL_small k).1
  rw [natR]
  refine h.mono ?_
  grind
/-- The reference's product over the axes; then what comes behind it. -/
theorem ref_axes {all : List (List S36)} {C : List Int} {n : Nat} {R : List S36} {item : Int} {x9 : Nat} {x10 x21 x22 : Int} {x20 g0 : List Int} {rows : List (List Int)} (hR : Reg R n) (hC : Crd C n) (hn : n ≤ 3) {Q : Nat → Prop}
    (hQ : ∀ b z, Fin .f64 b z → Cl z (PhiN R C n) ((n : Rat) * (5 * UL .f64)) → EvP (fun k => spec_DeltaRef.l1 k all item C x9 x10 b x20 x21 x22 R (R.length : Int) (n : Int) g0 rows) Q) :
    ∀ d i : Nat, i + d = n → ∀ bv v, Fin .f64 bv v → Cl v (PhiN R C i) ((i : Rat) * (5 * UL .f64)) → 0 ≤ v →
    EvP (fun k => spec_DeltaRef.l1 k all item C x9 x10 bv x20 x21 x22 R (R.length : Int) (i : Int) g0 rows) Q
  | 0, i, hi, bv, v, hf, hcl, h0 => by
    obtain rfl : i = n := by omega
    exact hQ bv v hf hcl
  | d + 1, i, hi, bv, v, hf, hcl, h0 => by
    have hl := hC.len
    have hlR := hR.len
    have hA := hR.ax i (by omega)
    have hP := PhiN01 (R := R) (C := C) i
    have hp := phi01 (R.getD i z36) (C.getD i 0)
    have go := fun b z hz hc h0 => ref_axes hR hC hn hQ d (i + 1) (by omega) b z hz hc h0
    generalize hX : R.getD i z36 = X at *
    generalize hc : C.getD i 0 = c at *
    have hPn : PhiN R C (i + 1) = PhiN R C i * phi X c := by rw [PhiN, hX, hc]
    obtain ⟨a0, a1, a2, a3, a4⟩ := hA
    have enter : ∀ b : Bool, EvP (fun k => spec_DeltaRef.j2 k all item C x9 x10 bv X.f0 X.f1 X.f2 c x20 x21 x22 R (R.length : Int) (i : Int) b g0 rows) Q → (X.f1 = 0 → b = true) → (X.f1 ≠ 0 → b = (c == X.f1)) →
        EvP (fun k => spec_DeltaRef.l1 k all item C x9 x10 bv x20 x21 x22 R (R.length : Int) (i : Int) g0 rows) Q := by
      intro b hb b1 b2
      refine EvP.step (fun k => ?_) hb
      rw [spec_DeltaRef.l1, if_pos (by omega), if_pos (by omega), if_pos (by omega), if_pos (by omega), rd36, rd_nat, hX, hc]
      by_cases z : X.f1 = 0
      · rw [if_pos z, b1 z]
      · rw [if_neg z, b2 z]
    have one : phi X c = 1 → EvP (fun k => spec_DeltaRef.j2 k all item C x9 x10 bv X.f0 X.f1 X.f2 c x20 x21 x22 R (R.length : Int) (i : Int) true g0 rows) Q := by
      intro h1
      refine EvP.step (fun k => ?_) (go bv v hf (by rw [hPn, h1, Rat.mul_one]; exact cl_n hcl) h0)
      rw [spec_DeltaRef.j2, if_pos rfl, w64s i (by omega)]
    by_cases z1 : X.f1 = 0
    · exact enter true (one (by unfold phi; rw [if_pos (Or.inl z1)])) (fun _ => rfl) (fun h => absurd z1 h)
    by_cases z2 : c = X.f1
    · refine enter true (one (by unfold phi; rw [if_pos (Or.inr z2)])) (fun _ => rfl) (fun _ => by simp [z2])
    have hphi : phi X c = if c ≤ X.f0 ∨ X.f2 ≤ c then 0 else if c < X.f1 then ((c - X.f0 : Int) : Rat) / ((X.f1 - X.f0 : Int) : Rat) else ((X.f2 - c : Int) : Rat) / ((X.f2 - X.f1 : Int) : Rat) := by unfold phi; rw [if_neg (by omega)]
    refine enter false ?_ (fun h => absurd h z1) (fun _ => by simp [z2])
    have zer : phi X c = 0 → EvP (fun k => spec_DeltaRef.l1 k all item C x9 x10 0 x20 x21 x22 R (R.length : Int) ((i + 1 : Nat) : Int) g0 rows) Q := by
      intro hz
      refine go 0 0 zero64 ?_ (by grind)
      rw [hPn, hz, Rat.mul_zero]
      refine Cl.refl _ (Rat.mul_nonneg Rat.natCast_nonneg ?_)
      have := (UL_small .f64).1
      grind
    have mul : ∀ a b : Int, phi X c = (a : Rat) / (b : Rat) → 0 ≤ a → a ≤ b → 0 < b → b ≤ 32768 → ∃ t, fok .quo .f64 (floatOfInt .f64 a) (floatOfInt .f64 b) = true ∧ fv .quo .f64 (floatOfInt .f64 a) (floatOfInt .f64 b) = t ∧ ∃ r, fok .mul .f64 bv t = true ∧ fv .mul .f64 bv t = r ∧
        EvP (fun k => spec_DeltaRef.l1 k all item C x9 x10 r x20 x21 x22 R (R.length : Int) ((i + 1 : Nat) : Int) g0 rows) Q := by
      intro a b hab h1 h2 h3 h4
      obtain ⟨t, f, ht, hft, hct, hf0⟩ := quo_near .f64 a b h1 h2 h3 h4
      rw [← hab] at hct
      obtain ⟨r, z, hr, hz, hc2, hz0, _, _⟩ := mul_step .f64 hf hft Rat.natCast_nonneg (natR_le (show i ≤ 3 by omega)) hcl hct h0 hf0 hP.1 hP.2 hp.1 hp.2
      obtain ⟨o1, o2⟩ := fv_of ht
      obtain ⟨o3, o4⟩ := fv_of hr
      exact ⟨t, o1, o2, r, o3, o4, go r z hz (by rw [hPn, natR]; exact hc2) hz0⟩
    by_cases y1 : c ≤ X.f0
    · refine EvP.step (fun k => ?_) (zer (by rw [hphi, if_pos (Or.inl y1)]))
      rw [spec_DeltaRef.j2, if_neg (by decide), if_pos y1, w64s i (by omega)]
    by_cases y2 : X.f2 ≤ c
    · refine EvP.step (fun k => ?_) (zer (by rw [hphi, if_pos (Or.inr y2)]))
      rw [spec_DeltaRef.j2, if_neg (by decide), if_neg y1, if_pos y2, w64s i (by omega)]
    by_cases y3 : c < X.f1
    · obtain ⟨t, p1, p2, r, p3, p4, hE⟩ := mul (c - X.f0) (X.f1 - X.f0) (by rw [hphi, if_neg (by omega), if_pos y3]) (by omega) (by omega) (by omega) (by omega)
      refine EvP.step (fun k => ?_) hE
      rw [spec_DeltaRef.j2, if_neg (by decide), if_neg y1, if_neg (by omega), if_pos y3, w64 (c - X.f0) (by omega), w64 (X.f1 - X.f0) (by omega), if_pos p1, p2, if_pos p3, p4, w64s i (by omega)]
    · obtain ⟨t, p1, p2, r, p3, p4, hE⟩ := mul (X.f2 - c) (X.f2 - X.f1) (by rw [hphi, if_neg (by omega), if_neg y3]) (by omega) (by omega) (by omega) (by omega)
      refine EvP.step (fun k => ?_) hE
      rw [spec_DeltaRef.j2, if_neg (by decide), if_neg y1, if_neg (by omega), if_neg y3, w64 (X.f2 - c) (by omega), w64 (X.f2 - X.f1) (by omega), if_pos p1, p2, if_pos p3, p4, w64s i (by omega)]
theorem ref_loop {all : List (List S36)} {rs C : List Int} {rows : List (List Int)} {item : Nat} {n : Nat} {g0 : List Int} (hS : Sto all n) (hI : Ixs rs all.length) (hC : Crd C n) (hn : n ≤ 3) (hitem : item < rows.length) (hx : Row (rows.getD item [])) (hlen : (rows.getD item []).length = rs.length) :
    ∀ d i : Nat, i + d = rs.length → ∀ ba a, Fin .f64 ba a → Cl a (SumN (rows.getD item []) (wgt all rs C n) i) (bd .f64 (AbsN (rows.getD item []) i) i) →
    EvP (fun k => spec_DeltaRef.l0 k all (item : Int) C ba rs (rs.length : Int) (i : Int) g0 rows) (fun r => ∃ z, Fin .f64 r z ∧ Cl z (SumN (rows.getD item []) (wgt all rs C n) rs.length) (bd .f64 (AbsN (rows.getD item []) rs.length) rs.length))
  | 0, i, hi, ba, a, hf, hcl => by
    obtain rfl : i = rs.length := by omega
    refine EvP.step (f := fun _ => some ba) (fun k => ?_) (EvP.now _ ⟨a, hf, hcl⟩)
    rw [spec_DeltaRef.l0, if_neg (by omega)]
  | d + 1, i, hi, ba, a, hf, hcl => by
    have hr := hI.ok i (by omega)
    have hfew := hI.few
    have hR := hS.reg (rs.getD i 0).toNat (by omega)
    have main := ref_axes (all := all) (C := C) (R := all.getD (rs.getD i 0).toNat []) (item := (item : Int)) (x9 := ba) (x10 := (i : Int)) (x21 := (rs.length : Int)) (x22 := (i : Int)) (x20 := rs) (g0 := g0) (rows := rows) hR hC hn
      (Q := fun r => ∃ z, Fin .f64 r z ∧ Cl z (SumN (rows.getD item []) (wgt all rs C n) rs.length) (bd .f64 (AbsN (rows.getD item []) rs.length) rs.length)) ?_ n 0 (by omega) 4607182418800017408 1 one64 (by unfold PhiN; refine Cl.refl _ ?_; show (0 : Rat) ≤ 0 * _; grind) (by grind)
    · refine EvP.step (fun k => ?_) main
      rw [spec_DeltaRef.l0, if_pos (by omega), if_pos (by omega), if_pos (by omega), rd_nat, if_pos hr.1, if_pos hr.2, rdL8]
      rfl
    · intro b z hz hc
      obtain ⟨_, ⟨p, r, y, q1, q2, q3, q4⟩⟩ := sum_step .f64 hx (wgt01 all rs C n) (show i ≤ 4 by omega) hf hz hcl (hc.mono (u15 _ hn))
      obtain ⟨o1, o2⟩ := fv_of q1
      obtain ⟨o3, o4⟩ := fv_of q2
      refine EvP.step (fun k => ?_) (ref_loop (g0 := g0) hS hI hC hn hitem hx hlen d (i + 1) (by omega) r y q3 q4)
      have hrow : rd_L9 rows (item : Int) = rows.getD item [] := by unfold rd_L9; rw [Int.toNat_natCast]
      rw [spec_DeltaRef.l1, if_neg (by rw [hR.len]; omega), if_pos (by omega), if_pos (by omega), if_pos (by omega), hrow, if_pos (by omega), rd_nat, if_pos o1, o2, if_pos o3, o4, w64 _ (by omega)]
      rfl

/-! ### rows that grow -/
theorem getD_snoc {α : Type} (xs : List α) (x z : α) (j : Nat) : (xs ++ [x]).getD j z = if j < xs.length then xs.getD j z else if j = xs.length then x else z := by
  simp only [List.getD_eq_getElem?_getD, List.getElem?_append]
  by_cases h : j < xs.length
  · simp [h]
  · by_cases h2 : j = xs.length
    · subst h2; simp
    · rw [if_neg h, if_neg h, if_neg h2, List.getElem?_eq_none (by simp; omega)]
      rfl
def AllD {α : Type} (P : α → Prop) (z : α) (xs : List α) : Prop := ∀ j, j < xs.length → P (xs.getD j z)
theorem AllD.snoc {α : Type} {P : α → Prop} {z x : α} {xs : List α} (h : AllD P z xs) (hx : P x) : AllD P z (xs ++ [x]) := by
  intro j hj
  rw [getD_snoc]
  rw [List.length_append, List.length_singleton] at hj
  by_cases h1 : j < xs.length
  · rw [if_pos h1]; exact h j h1
  · rw [if_neg h1, if_pos (by omega)]; exact hx
theorem AllD.nil {α : Type} {P : α → Prop} {z : α} : AllD P z [] := fun j hj => absurd hj (by simp)
theorem AllD.mem {α : Type} {P : α → Prop} {z : α} {xs : List α} (h : ∀ x ∈ xs, P x) : AllD P z xs := by
  intro j hj
  rw [List.getD_eq_getElem?_getD, List.getElem?_eq_getElem hj]
  exact h _ (List.getElem_mem hj)
theorem wf_u8 {x : Int} (h : (Lit.int .u8 x).wf = true) : 0 ≤ x ∧ x ≤ 255 := by
  simp only [Lit.wf, Bool.and_eq_true, decide_eq_true_eq] at h; exact h
theorem wf_i16 {x : Int} (h : (Lit.int .i16 x).wf = true) : -32768 ≤ x ∧ x ≤ 32767 := by
  simp only [Lit.wf, Bool.and_eq_true, decide_eq_true_eq] at h; exact h
/-! ### the sizes' tests -/
theorem fits28 (xs : List (List S161)) (hm : xs.length ≤ 2147483647) : ∀ d i : Nat, i + d = xs.length → EvP (fun k => laws_zzFits28.l0 k xs (xs.length : Int) (i : Int)) (fun _ => True)
  | 0, i, hi => by
    refine EvP.step (f := fun _ => some true) (fun k => ?_) (EvP.now _ trivial)
    rw [laws_zzFits28.l0, if_neg (by omega)]
  | d + 1, i, hi => by
    by_cases h : ((rd_L2 xs (i : Int)).length : Int) > 2147483647
    · refine EvP.step (f := fun _ => some false) (fun k => ?_) (EvP.now _ trivial)
      rw [laws_zzFits28.l0, if_pos (by omega), if_pos (by omega), if_pos (by omega), if_pos h]
    · refine EvP.step (fun k => ?_) (fits28 xs hm d (i + 1) (by omega))
      rw [laws_zzFits28.l0, if_pos (by omega), if_pos (by omega), if_pos (by omega), if_neg h, w64 _ (by omega)]
      rfl
theorem fits29 (xs : List (List Int)) (hm : xs.length ≤ 2147483647) : ∀ d i : Nat, i + d = xs.length → EvP (fun k => laws_zzFits29.l0 k xs (xs.length : Int) (i : Int)) (fun _ => True)
  | 0, i, hi => by
    refine EvP.step (f := fun _ => some true) (fun k => ?_) (EvP.now _ trivial)
    rw [laws_zzFits29.l0, if_neg (by omega)]
  | d + 1, i, hi => by
    by_cases h : ((rd_L4 xs (i : Int)).length : Int) > 2147483647
    · refine EvP.step (f := fun _ => some false) (fun k => ?_) (EvP.now _ trivial)
      rw [laws_zzFits29.l0, if_pos (by omega), if_pos (by omega), if_pos (by omega), if_pos h]
    · refine EvP.step (fun k => ?_) (fits29 xs hm d (i + 1) (by omega))
      rw [laws_zzFits29.l0, if_pos (by omega), if_pos (by omega), if_pos (by omega), if_neg h, w64 _ (by omega)]
      rfl
theorem fits30 (xs : List (List Int)) (hm : xs.length ≤ 2147483647) : ∀ d i : Nat, i + d = xs.length → EvP (fun k => laws_zzFits30.l0 k xs (xs.length : Int) (i : Int)) (fun _ => True)
  | 0, i, hi => by
    refine EvP.step (f := fun _ => some true) (fun k => ?_) (EvP.now _ trivial)
    rw [laws_zzFits30.l0, if_neg (by omega)]
  | d + 1, i, hi => by
    by_cases h : ((rd_L5 xs (i : Int)).length : Int) > 2147483647
    · refine EvP.step (f := fun _ => some false) (fun k => ?_) (EvP.now _ trivial)
      rw [laws_zzFits30.l0, if_pos (by omega), if_pos (by omega), if_pos (by omega), if_pos h]
    · refine EvP.step (fun k => ?_) (fits30 xs hm d (i + 1) (by omega))
      rw [laws_zzFits30.l0, if_pos (by omega), if_pos (by omega), if_pos (by omega), if_neg h, w64 _ (by omega)]
      rfl
theorem fit28 (xs : List (List S161)) : EvP (fun k => laws_zzFits28.f k xs) (fun _ => True) := by
  unfold laws_zzFits28.f
  by_cases h : (xs.length : Int) > 2147483647
  · exact EvP.pos h (EvP.now _ trivial)
  · exact EvP.neg h (fits28 xs (by omega) xs.length 0 (by omega))
theorem fit29 (xs : List (List Int)) : EvP (fun k => laws_zzFits29.f k xs) (fun _ => True) := by
  unfold laws_zzFits29.f
  by_cases h : (xs.length : Int) > 2147483647
  · exact EvP.pos h (EvP.now _ trivial)
  · exact EvP.neg h (fits29 xs (by omega) xs.length 0 (by omega))
theorem fit30 (xs : List (List Int)) : EvP (fun k => laws_zzFits30.f k xs) (fun _ => True) := by
  unfold laws_zzFits30.f
  by_cases h : (xs.length : Int) > 2147483647
  · exact EvP.pos h (EvP.now _ trivial)
  · exact EvP.neg h (fits30 xs (by omega) xs.length 0 (by omega))
/-! ### some store -/
theorem coord_is (a : Int) (h : -32768 ≤ a ∧ a ≤ 32767) : ∃ c, spec_Coord.f a = some c ∧ -16384 ≤ c ∧ c ≤ 16384 := by
  refine ⟨_, rfl, ?_⟩
  rw [w64 _ (by omega)]
  unfold mx mn
  (repeat' split) <;> omega
def I16 (x : Int) : Prop := -32768 ≤ x ∧ x ≤ 32767
def Tri (x : S161) : Prop := I16 x.f0 ∧ I16 x.f1 ∧ I16 x.f2
theorem mx_is (a b : Int) : a ≤ mx a b ∧ b ≤ mx a b ∧ (mx a b = a ∨ mx a b = b) := by unfold mx; split <;> omega
theorem mn_is (a b : Int) : mn a b ≤ a ∧ mn a b ≤ b ∧ (mn a b = a ∨ mn a b = b) := by unfold mn; split <;> omega
/-- Three numbers in order. -/
theorem sort3 (a b c : Int) (h : -16384 ≤ a ∧ a ≤ 16384 ∧ -16384 ≤ b ∧ b ≤ 16384 ∧ -16384 ≤ c ∧ c ≤ 16384) (s : (0 ≤ a ∧ 0 ≤ b ∧ 0 ≤ c) ∨ (a ≤ 0 ∧ b ≤ 0 ∧ c ≤ 0)) : Ax ⟨mn (mn a b) (mn (mx a b) c), mx (mn a b) (mn (mx a b) c), mx (mx a b) c⟩ := by
  have h1 := mn_is a b
  have h2 := mx_is a b
  have h3 := mn_is (mx a b) c
  have h4 := mx_is (mx a b) c
  have h5 := mn_is (mn a b) (mn (mx a b) c)
  have h6 := mx_is (mn a b) (mn (mx a b) c)
  generalize mn (mn a b) (mn (mx a b) c) = e5 at *
  generalize mx (mn a b) (mn (mx a b) c) = e6 at *
  generalize mn (mx a b) c = e3 at *
  generalize mx (mx a b) c = e4 at *
  generalize mx a b = e2 at *
  generalize mn a b = e1 at *
  constructor <;> dsimp only <;> omega
theorem axis_is (R : List S161) (hR : AllD Tri z161 R) (j : Nat) : ∃ x : S36, spec_RegionAxis.f R (j : Int) = some (x.f0, x.f1, x.f2) ∧ Ax x := by
  unfold spec_RegionAxis.f
  by_cases h : (j : Int) ≥ (R.length : Int)
  · exact ⟨z36, if_pos h, ⟨by decide, by decide, by decide, by decide, by decide⟩⟩
  · have hT := hR j (by omega)
    have e : rd_T161 R (j : Int) = R.getD j z161 := by unfold rd_T161; rw [Int.toNat_natCast]
    rw [if_neg h, if_pos (by omega), if_pos (by omega), e]
    obtain ⟨a, ha, a1, a2⟩ := coord_is _ hT.1
    obtain ⟨b, hb, b1, b2⟩ := coord_is _ hT.2.1
    obtain ⟨c, hc, c1, c2⟩ := coord_is _ hT.2.2
    rw [ha, hb, hc]
    simp only [Option.bind_some]
    have A : ∃ a', a' = mx a (wrap64 (-a)) ∧ 0 ≤ a' ∧ a' ≤ 16384 := ⟨_, rfl, by rw [w64 _ (by omega)]; unfold mx; split <;> omega⟩
    have C : ∃ c', c' = mx c (wrap64 (-c)) ∧ 0 ≤ c' ∧ c' ≤ 16384 := ⟨_, rfl, by rw [w64 _ (by omega)]; unfold mx; split <;> omega⟩
    obtain ⟨a', ha', a3, a4⟩ := A
    obtain ⟨c', hc', c3, c4⟩ := C
    rw [← ha', ← hc']
    by_cases hb0 : b < 0
    · rw [if_pos hb0, w64 (-a') (by omega), w64 (-c') (by omega)]
      exact ⟨⟨_, _, _⟩, rfl, sort3 (-a') b (-c') (by omega) (by omega)⟩
    · rw [if_neg hb0]
      exact ⟨⟨_, _, _⟩, rfl, sort3 a' b c' (by omega) (by omega)⟩
structure Lst (m nall : Nat) (x : S41) : Prop where
  ix : Ixs x.f0 nall
  rows : x.f1.length = m
  len : ∀ j, j < m → (x.f1.getD j []).length = x.f0.length
  ok : ∀ j, j < m → AllD I16 0 (x.f1.getD j [])
theorem rowI {xs : List Int} (h : AllD I16 0 xs) : Row xs := by
  refine ⟨fun j => ?_⟩
  by_cases hj : j < xs.length
  · have := h j hj; unfold I16 at this; omega
  · rw [List.getD_eq_getElem?_getD, List.getElem?_eq_none (by omega)]; decide
structure St (all : List (List S36)) (ls : List S41) (at_ : List Int) (n m : Nat) : Prop where
  n0 : 1 ≤ n
  n3 : n ≤ 3
  m0 : 1 ≤ m
  m5 : m ≤ 5
  all0 : 1 ≤ all.length
  sto : Sto all n
  l0 : 1 ≤ ls.length
  l4 : ls.length ≤ 4
  lst : AllD (Lst m all.length) z41 ls
  crd : Crd at_ n
def Good (r : List (List S36) × List S41 × List Int) : Prop := r.1.length = 0 ∨ ∃ n m, St r.1 r.2.1 r.2.2 n m
section
variable {x1 x2 : List (List Int)} {x3 : List Int}
/-- The coordinates. -/
theorem some_l6 {all : List (List S36)} {ls : List S41} {n m : Nat} {C : List Int} (n0 : 1 ≤ n) (n3 : n ≤ 3) (m0 : 1 ≤ m) (m5 : m ≤ 5) (all0 : 1 ≤ all.length) (sto : Sto all n) (l0 : 1 ≤ ls.length) (l4 : ls.length ≤ 4) (lst : AllD (Lst m all.length) z41 ls) (hC : AllD I16 0 C) (hCn : C.length = n) :
    ∀ d i : Nat, i + d = n → ∀ acc : List Int, acc.length = i → AllD (fun c => -16384 ≤ c ∧ c ≤ 16384) 0 acc → EvP (fun k => spec_SomeStore.l6 k all ls acc C (C.length : Int) (i : Int)) Good
  | 0, i, hi, acc, ha, hA => by
    refine EvP.step (f := fun _ => some (all, ls, acc)) (fun k => ?_) (EvP.now _ (Or.inr ⟨n, m, n0, n3, m0, m5, all0, sto, l0, l4, lst, by show acc.length = n; omega, fun j hj => hA j (by omega)⟩))
    rw [spec_SomeStore.l6, if_neg (by omega)]
  | d + 1, i, hi, acc, ha, hA => by
    obtain ⟨c, hc, h1⟩ := coord_is _ (hC i (by omega))
    refine EvP.step (fun k => ?_) (some_l6 n0 n3 m0 m5 all0 sto l0 l4 lst hC hCn d (i + 1) (by omega) (acc ++ [c]) (by rw [List.length_append, ha]; rfl) (hA.snoc h1))
    rw [spec_SomeStore.l6, if_pos (by omega), if_pos (by omega), if_pos (by omega), rd_nat, hc, Option.bind_some, if_pos (by omega), w64 _ (by omega)]
    rfl
theorem nth_is (xs : List Int) (hx : AllD I16 0 xs) (j : Nat) : ∃ r, spec_Nth.f xs (j : Int) = some r ∧ I16 r := by
  unfold spec_Nth.f
  by_cases h : (xs.length : Int) = 0
  · exact ⟨0, if_pos h, by unfold I16; omega⟩
  · have h1 := Int.tmod_nonneg (xs.length : Int) (show (0 : Int) ≤ (j : Int) by omega)
    have h2 := Int.tmod_lt_of_pos (j : Int) (show (0 : Int) < (xs.length : Int) by omega)
    rw [if_neg h, if_pos h1, if_pos h2]
    have h3 := hx (Int.tmod (j : Int) (xs.length : Int)).toNat (by omega)
    refine ⟨_, rfl, ?_⟩
    have e : rd xs (Int.tmod (j : Int) (xs.length : Int)) = xs.getD (Int.tmod (j : Int) (xs.length : Int)).toNat 0 := rfl
    rw [e, w64 _ (by unfold I16 at h3; omega)]
    exact h3
/-- One row of an item's numbers. -/
theorem some_l5 {all : List (List S36)} {ls : List S41} {n : Int} {i t : Nat} {ix : List Int} {rows : List (List Int)} {Q : List (List S36) × List S41 × List Int → Prop} (h2 : AllD (fun y => AllD I16 0 y) [] x2) (hi : i ≤ 4) (ht : t < x2.length) (ht5 : t < 5) (hix : ix.length ≤ 5) (hr : rows.length ≤ 5)
    (hQ : ∀ row : List Int, row.length = ix.length → AllD I16 0 row → EvP (fun k => spec_SomeStore.l4 k x1 x2 x3 all ls [] n (i : Int) ((t + 1 : Nat) : Int) ix (rows ++ [row])) Q) :
    ∀ d j : Nat, j + d = ix.length → ∀ acc : List Int, acc.length = j → AllD I16 0 acc → EvP (fun k => spec_SomeStore.l5 k x1 x2 x3 all ls [] n (i : Int) (t : Int) acc (ix.length : Int) (j : Int) ix rows) Q
  | 0, j, hj, acc, ha, hA => by
    refine EvP.step (fun k => ?_) (hQ acc (by omega) hA)
    rw [spec_SomeStore.l5, if_neg (by omega), if_pos (by omega), w64 _ (by omega)]
    rfl
  | d + 1, j, hj, acc, ha, hA => by
    have e : rd_L5 x2 (t : Int) = x2.getD t [] := by unfold rd_L5; rw [Int.toNat_natCast]
    obtain ⟨c, hc, h1⟩ := nth_is (x2.getD t []) (h2 t ht) (j + i)
    refine EvP.step (fun k => ?_) (some_l5 h2 hi ht ht5 hix hr hQ d (j + 1) (by omega) (acc ++ [c]) (by rw [List.length_append, ha]; rfl) (hA.snoc h1))
    rw [spec_SomeStore.l5, if_pos (by omega), if_pos (by omega), if_pos (by omega), e, w64 ((j : Int) + (i : Int)) (by omega), show (j : Int) + (i : Int) = ((j + i : Nat) : Int) by omega, hc, Option.bind_some, if_pos (by omega), w64 _ (by omega)]
    rfl
/-- The rows of an item. -/
theorem some_l4 {all : List (List S36)} {ls : List S41} {n : Int} {i m : Nat} {ix : List Int} {Q : List (List S36) × List S41 × List Int → Prop} (h2 : AllD (fun y => AllD I16 0 y) [] x2) (hi : i ≤ 4) (hm : m = min x2.length 5) (hix : Ixs ix all.length) (hl : ls.length ≤ 4)
    (hQ : ∀ it : S41, Lst m all.length it → EvP (fun k => spec_SomeStore.l2 k x1 x2 x3 all (ls ++ [it]) [] n ((i + 1 : Nat) : Int)) Q) :
    ∀ d t : Nat, t + d = m → ∀ rows : List (List Int), rows.length = t → AllD (fun y => y.length = ix.length) [] rows → AllD (fun y => AllD I16 0 y) [] rows → EvP (fun k => spec_SomeStore.l4 k x1 x2 x3 all ls [] n (i : Int) (t : Int) ix rows) Q
  | 0, t, ht, rows, hr, hA, hB => by
    have hit : Lst m all.length ⟨ix, rows⟩ := ⟨hix, by show rows.length = m; omega, fun j hj => hA j (by omega), fun j hj => hB j (by omega)⟩
    have h9 : EvP (fun k => spec_SomeStore.j9 k x1 x2 x3 all ls [] n (i : Int) (t : Int) false ix rows) Q := by
      refine EvP.step (fun k => ?_) (hQ ⟨ix, rows⟩ hit)
      rw [spec_SomeStore.j9, if_neg (by decide), if_pos (by omega), w64 _ (by omega)]
      rfl
    refine EvP.step (fun k => ?_) h9
    rw [spec_SomeStore.l4]
    by_cases h : (t : Int) < (x2.length : Int)
    · rw [if_pos h, decide_eq_false (by omega)]
    · rw [if_neg h]
  | d + 1, t, ht, rows, hr, hA, hB => by
    have hfew := hix.few
    have h5 := some_l5 (x1 := x1) (x2 := x2) (x3 := x3) (all := all) (ls := ls) (n := n) (i := i) (t := t) (ix := ix) (rows := rows) (Q := Q) h2 hi (by omega) (by omega) hfew (by omega)
      (fun row q1 q2 => some_l4 h2 hi hm hix hl hQ d (t + 1) (by omega) (rows ++ [row]) (by rw [List.length_append, hr]; rfl) (hA.snoc q1) (hB.snoc q2)) ix.length 0 (by omega) [] rfl AllD.nil
    refine EvP.step (f := fun k => spec_SomeStore.j9 k x1 x2 x3 all ls [] n (i : Int) (t : Int) true ix rows) (fun k => ?_) (EvP.step (fun k => ?_) h5)
    · rw [spec_SomeStore.l4, if_pos (by omega), decide_eq_true (by omega)]
    · rw [spec_SomeStore.j9, if_pos rfl]
      rfl
/-- The numbers of an item's regions. -/
theorem some_l3 {all : List (List S36)} {ls : List S41} {n : Int} {i m : Nat} {Q : List (List S36) × List S41 × List Int → Prop} (h1 : AllD (fun y => AllD (fun x => 0 ≤ x ∧ x ≤ 255) 0 y) [] x1) (h2 : AllD (fun y => AllD I16 0 y) [] x2) (hi : i ≤ 4) (hi1 : i < x1.length) (hm : m = min x2.length 5) (hall : 1 ≤ all.length) (hall2 : all.length ≤ 6) (hl : ls.length ≤ 4)
    (hQ : ∀ it : S41, Lst m all.length it → EvP (fun k => spec_SomeStore.l2 k x1 x2 x3 all (ls ++ [it]) [] n ((i + 1 : Nat) : Int)) Q) :
    ∀ d t : Nat, t + d = min (x1.getD i []).length 5 → ∀ acc : List Int, acc.length = t → AllD (fun x => 0 ≤ x ∧ x < (all.length : Int)) 0 acc → EvP (fun k => spec_SomeStore.l3 k x1 x2 x3 all ls [] n (i : Int) (t : Int) acc) Q
  | 0, t, ht, acc, ha, hA => by
    have e : rd_L4 x1 (i : Int) = x1.getD i [] := by unfold rd_L4; rw [Int.toNat_natCast]
    have h4 := some_l4 (x1 := x1) (x2 := x2) (x3 := x3) (all := all) (ls := ls) (n := n) (i := i) (m := m) (ix := acc) (Q := Q) h2 hi hm ⟨by omega, fun j hj => hA j hj⟩ hl hQ m 0 (by omega) [] rfl AllD.nil AllD.nil
    refine EvP.step (f := fun k => spec_SomeStore.j7 k x1 x2 x3 all ls [] n (i : Int) acc) (fun k => ?_) (EvP.step (fun k => ?_) h4)
    · rw [spec_SomeStore.l3, if_pos (by omega), if_pos (by omega), e]
      by_cases h : (t : Int) < ((x1.getD i []).length : Int)
      · rw [if_pos h, if_neg (by omega)]
      · rw [if_neg h]
    · rw [spec_SomeStore.j7]
      rfl
  | d + 1, t, ht, acc, ha, hA => by
    have e : rd_L4 x1 (i : Int) = x1.getD i [] := by unfold rd_L4; rw [Int.toNat_natCast]
    have hx := h1 i hi1 t (by omega)
    have e1 := Int.tmod_nonneg (all.length : Int) hx.1
    have e2 := Int.tmod_lt_of_pos ((x1.getD i []).getD t 0) (show (0 : Int) < (all.length : Int) by omega)
    refine EvP.step (fun k => ?_) (some_l3 h1 h2 hi hi1 hm hall hall2 hl hQ d (t + 1) (by omega) (acc ++ [Int.tmod ((x1.getD i []).getD t 0) (all.length : Int)]) (by rw [List.length_append, ha]; rfl) (hA.snoc ⟨e1, e2⟩))
    rw [spec_SomeStore.l3, if_pos (by omega), if_pos (by omega), e, if_pos (by omega), if_pos (by omega), if_pos (by omega), if_neg (by omega), if_pos (by omega), rd_nat, w64 _ (by omega : -9223372036854775808 ≤ (x1.getD i []).getD t 0 ∧ (x1.getD i []).getD t 0 ≤ 9223372036854775807), w64 _ (by omega)]
    rfl
/-- The items. -/
theorem some_l2 {all : List (List S36)} {n m : Nat} (h1 : AllD (fun y => AllD (fun x => 0 ≤ x ∧ x ≤ 255) 0 y) [] x1) (h2 : AllD (fun y => AllD I16 0 y) [] x2) (h3 : AllD I16 0 x3) (hn : n = min x3.length 3) (n0 : 1 ≤ n) (hm : m = min x2.length 5) (m0 : 1 ≤ m) (all0 : 1 ≤ all.length) (sto : Sto all n) (hx1 : 1 ≤ x1.length) :
    ∀ d i : Nat, i + d = min x1.length 4 → ∀ ls : List S41, ls.length = i → AllD (Lst m all.length) z41 ls → EvP (fun k => spec_SomeStore.l2 k x1 x2 x3 all ls [] (n : Int) (i : Int)) Good
  | 0, i, hi, ls, hl, hL => by
    have hlen : (x3.take n).length = n := by rw [List.length_take]; omega
    have hC : AllD I16 0 (x3.take n) := by
      intro j hj
      rw [List.getD_eq_getElem?_getD, List.getElem?_take_of_lt (by omega), ← List.getD_eq_getElem?_getD]
      exact h3 j (by omega)
    have h6 := some_l6 (all := all) (ls := ls) (n := n) (m := m) (C := x3.take n) n0 (by omega) m0 (by omega) all0 sto (by omega) (by omega) hL hC hlen n 0 (by omega) [] rfl AllD.nil
    refine EvP.step (f := fun k => spec_SomeStore.j5 k x1 x2 x3 all ls [] (n : Int) (i : Int) false) (fun k => ?_) (EvP.step (fun k => ?_) h6)
    · rw [spec_SomeStore.l2]
      by_cases h : (i : Int) < (x1.length : Int)
      · rw [if_pos h, decide_eq_false (by omega)]
      · rw [if_neg h]
    · rw [spec_SomeStore.j5, if_neg (by decide), if_pos (by omega), if_pos (by omega), Int.toNat_natCast]
      rfl
  | d + 1, i, hi, ls, hl, hL => by
    have hf := sto.few
    have h3' := some_l3 (x1 := x1) (x2 := x2) (x3 := x3) (all := all) (ls := ls) (n := (n : Int)) (i := i) (m := m) (Q := Good) h1 h2 (by omega) (by omega) hm all0 hf (by omega)
      (fun it hit => some_l2 h1 h2 h3 hn n0 hm m0 all0 sto hx1 d (i + 1) (by omega) (ls ++ [it]) (by rw [List.length_append, hl]; rfl) (hL.snoc hit)) (min (x1.getD i []).length 5) 0 (by omega) [] rfl AllD.nil
    refine EvP.step (f := fun k => spec_SomeStore.j5 k x1 x2 x3 all ls [] (n : Int) (i : Int) true) (fun k => ?_) (EvP.step (fun k => ?_) h3')
    · rw [spec_SomeStore.l2, if_pos (by omega), decide_eq_true (by omega)]
    · rw [spec_SomeStore.j5, if_pos rfl]
      rfl
variable {x0 : List (List S161)}
/-- The axes of a region. -/
theorem some_l1 {all : List (List S36)} {n : Nat} {i : Nat} {Q : List (List S36) × List S41 × List Int → Prop} (h0 : AllD (fun y => AllD Tri z161 y) [] x0) (hi : i < x0.length) (hi6 : i < 6) (hn : n ≤ 3) (ha : all.length ≤ 6)
    (hQ : ∀ R : List S36, Reg R n → EvP (fun k => spec_SomeStore.l0 k x0 x1 x2 x3 (all ++ [R]) [] [] (n : Int) ((i + 1 : Nat) : Int)) Q) :
    ∀ d j : Nat, j + d = n → ∀ acc : List S36, acc.length = j → AllD Ax z36 acc → EvP (fun k => spec_SomeStore.l1 k x0 x1 x2 x3 all [] [] (n : Int) (i : Int) acc (n : Int) (j : Int)) Q
  | 0, j, hj, acc, hl, hA => by
    refine EvP.step (fun k => ?_) (hQ acc ⟨by omega, fun t ht => hA t (by omega)⟩)
    rw [spec_SomeStore.l1, if_neg (by omega), if_pos (by omega), w64 _ (by omega)]
    rfl
  | d + 1, j, hj, acc, hl, hA => by
    have e : rd_L2 x0 (i : Int) = x0.getD i [] := by unfold rd_L2; rw [Int.toNat_natCast]
    obtain ⟨x, hx, ax⟩ := axis_is (x0.getD i []) (h0 i hi) j
    refine EvP.step (fun k => ?_) (some_l1 h0 hi hi6 hn ha hQ d (j + 1) (by omega) (acc ++ [x]) (by rw [List.length_append, hl]; rfl) (hA.snoc ax))
    rw [spec_SomeStore.l1, if_pos (by omega), if_pos (by omega), if_pos (by omega), e, hx, Option.bind_some, if_pos (by omega), w64 _ (by omega)]
    rfl
/-- The regions. -/
theorem some_l0 {n m : Nat} (h0 : AllD (fun y => AllD Tri z161 y) [] x0) (h1 : AllD (fun y => AllD (fun x => 0 ≤ x ∧ x ≤ 255) 0 y) [] x1) (h2 : AllD (fun y => AllD I16 0 y) [] x2) (h3 : AllD I16 0 x3) (hn : n = min x3.length 3) (n0 : 1 ≤ n) (hm : m = min x2.length 5) (m0 : 1 ≤ m) (hx1 : 1 ≤ x1.length) (hx0 : 1 ≤ x0.length) :
    ∀ d i : Nat, i + d = min x0.length 6 → ∀ all : List (List S36), all.length = i → AllD (fun R => Reg R n) [] all → EvP (fun k => spec_SomeStore.l0 k x0 x1 x2 x3 all [] [] (n : Int) (i : Int)) Good
  | 0, i, hi, all, hl, hA => by
    have h2' := some_l2 (x1 := x1) (x2 := x2) (x3 := x3) (all := all) h1 h2 h3 hn n0 hm m0 (by omega) ⟨fun j hj => hA j hj, by omega⟩ hx1 (min x1.length 4) 0 (by omega) [] rfl AllD.nil
    refine EvP.step (f := fun k => spec_SomeStore.j2 k x0 x1 x2 x3 all [] [] (n : Int) (i : Int) false) (fun k => ?_) (EvP.step (fun k => ?_) h2')
    · rw [spec_SomeStore.l0]
      by_cases h : (i : Int) < (x0.length : Int)
      · rw [if_pos h, decide_eq_false (by omega)]
      · rw [if_neg h]
    · rw [spec_SomeStore.j2, if_neg (by decide)]
      rfl
  | d + 1, i, hi, all, hl, hA => by
    have h1' := some_l1 (x0 := x0) (x1 := x1) (x2 := x2) (x3 := x3) (all := all) (n := n) (i := i) (Q := Good) h0 (by omega) (by omega) (by omega) (by omega)
      (fun R hR => some_l0 h0 h1 h2 h3 hn n0 hm m0 hx1 hx0 d (i + 1) (by omega) (all ++ [R]) (by rw [List.length_append, hl]; rfl) (hA.snoc hR)) n 0 (by omega) [] rfl AllD.nil
    refine EvP.step (f := fun k => spec_SomeStore.j2 k x0 x1 x2 x3 all [] [] (n : Int) (i : Int) true) (fun k => ?_) (EvP.step (fun k => ?_) h1')
    · rw [spec_SomeStore.l0, if_pos (by omega), decide_eq_true (by omega)]
    · rw [spec_SomeStore.j2, if_pos rfl]
      rfl
/-- The store that is made. -/
theorem some_store (h0 : AllD (fun y => AllD Tri z161 y) [] x0) (h1 : AllD (fun y => AllD (fun x => 0 ≤ x ∧ x ≤ 255) 0 y) [] x1) (h2 : AllD (fun y => AllD I16 0 y) [] x2) (h3 : AllD I16 0 x3) : EvP (fun k => spec_SomeStore.f k x0 x1 x2 x3) Good := by
  have none_ : EvP (fun k => spec_SomeStore.j0 k x0 x1 x2 x3 [] [] [] (mn (x3.length : Int) 3) true) Good := by
    refine EvP.step (f := fun _ => some ([], [], [])) (fun k => ?_) (EvP.now _ (Or.inl rfl))
    rw [spec_SomeStore.j0, if_pos rfl]
  have hmn : mn (x3.length : Int) 3 = ((min x3.length 3 : Nat) : Int) := by unfold mn; split <;> omega
  unfold spec_SomeStore.f
  by_cases c0 : (x0.length : Int) = 0
  · exact EvP.pos c0 none_
  refine EvP.neg c0 ?_
  by_cases c1 : mn (x3.length : Int) 3 = 0
  · exact EvP.pos c1 none_
  refine EvP.neg c1 ?_
  by_cases c2 : (x1.length : Int) = 0
  · exact EvP.pos c2 none_
  refine EvP.neg c2 ?_
  by_cases c3 : (x2.length : Int) = 0
  · rw [show ((x2.length : Int) == 0) = true by simp only [c3]; rfl]
    exact none_
  rw [show ((x2.length : Int) == 0) = false by simpa using c3]
  rw [hmn] at c1 ⊢
  refine EvP.step (fun k => ?_) (some_l0 (m := min x2.length 5) h0 h1 h2 h3 rfl (by omega) rfl (by omega) (by omega) (by omega) (min x0.length 6) 0 (by omega) [] rfl AllD.nil)
  rw [spec_SomeStore.j0, if_neg (by decide)]
  rfl
end

/-! ### the bytes' builder: nothing of it is too large -/
theorem take_snoc {α : Type} (xs : List α) (z : α) {i : Nat} (h : i < xs.length) : xs.take (i + 1) = xs.take i ++ [xs.getD i z] := by
  rw [List.take_add_one, List.getElem?_eq_getElem h, List.getD_eq_getElem?_getD, List.getElem?_eq_getElem h]
  rfl
theorem must_t : impl_builder_must.f 0 0 false true = some (0, 0, false) := rfl
theorem signed_is (a : Int) (h : I16 a) : impl_builder_signed.f 0 0 false a = some (a, 0, 0, false) := by
  unfold I16 at h
  rw [impl_builder_signed.f, if_pos (by omega), decide_eq_true (by omega), must_t, Option.bind_some, i16w _ h]
theorem small_is (a : Int) (h : 0 ≤ a ∧ a ≤ 65535) : impl_builder_small.f 0 0 false a = some (a, 0, 0, false) := by
  rw [impl_builder_small.f, if_pos (by omega), decide_eq_true (by omega), must_t, Option.bind_some, u16w _ h]
theorem ax16 {x : S36} (h : Ax x) : I16 x.f0 ∧ I16 x.f1 ∧ I16 x.f2 := by
  obtain ⟨a, b, c, d, _⟩ := h
  unfold I16
  omega
def cvl (ls : List S41) : List S186 := ls.map fun it => ⟨0, 0, 0, it.f0, it.f1⟩
section
variable {all : List (List S36)} {ls : List S41} {n m : Nat}
/-- One row's numbers. -/
theorem put_l5 {i t : Nat} {ix g0 row : List Int} {rws f1 : List (List Int)} {ds : List S186} {Q : Int × Int × List S182 × List S186 × Int × Int × Bool → Prop} (hr : AllD I16 0 row) (hl : row.length ≤ 5) (hrw : rws.length ≤ 5) (ht : t ≤ 5)
    (hQ : EvP (fun k => impl_builder_store.l4 k all ls (ls.length : Int) (i : Int) f1 (f1.length : Int) ((t + 1 : Nat) : Int) 0 0 false 0 0 (cvs all) ds ix f1 0 0 0 g0 (rws ++ [row])) Q) :
    ∀ d j : Nat, j + d = row.length → EvP (fun k => impl_builder_store.l5 k all (row.take j) ls (ls.length : Int) (i : Int) f1 (f1.length : Int) (t : Int) row (row.length : Int) (j : Int) 0 0 false 0 0 (cvs all) ds ix f1 0 0 0 g0 rws) Q
  | 0, j, hj => by
    refine EvP.step (fun k => ?_) hQ
    rw [impl_builder_store.l5, if_neg (by omega), if_pos (by omega), w64 _ (by omega), List.take_of_length_le (by omega)]
    rfl
  | d + 1, j, hj => by
    refine EvP.step (fun k => ?_) (put_l5 hr hl hrw ht hQ d (j + 1) (by omega))
    rw [impl_builder_store.l5, if_pos (by omega), if_pos (by omega), if_pos (by omega), rd_nat, signed_is _ (hr j (by omega)), Option.bind_some, if_pos (by rw [List.length_take]; omega), w64 _ (by omega), take_snoc row 0 (by omega)]
    rfl
/-- The rows of an item. -/
theorem put_l4 {i : Nat} {ix g0 : List Int} {f1 : List (List Int)} {ds : List S186} {Q : Int × Int × List S182 × List S186 × Int × Int × Bool → Prop} (hL : Lst m all.length ⟨ix, f1⟩) (hm : m ≤ 5) (hds : ds.length ≤ 4) (hi : i ≤ 4)
    (hQ : EvP (fun k => impl_builder_store.l2 k all ls (ls.length : Int) ((i + 1 : Nat) : Int) 0 0 false 0 0 (cvs all) (ds ++ [⟨0, 0, 0, g0, f1⟩])) Q) :
    ∀ d t : Nat, t + d = m → EvP (fun k => impl_builder_store.l4 k all ls (ls.length : Int) (i : Int) f1 (f1.length : Int) (t : Int) 0 0 false 0 0 (cvs all) ds ix f1 0 0 0 g0 (f1.take t)) Q
  | 0, t, ht => by
    have hr : f1.length = m := hL.rows
    refine EvP.step (fun k => ?_) hQ
    rw [impl_builder_store.l4, if_neg (by omega), if_pos (by omega), w64 _ (by omega), List.take_of_length_le (by omega)]
    rfl
  | d + 1, t, ht => by
    have hr : f1.length = m := hL.rows
    have h1 : (f1.getD t []).length = ix.length := hL.len t (by omega)
    have hf := hL.ix.few
    have h5 := put_l5 (all := all) (ls := ls) (i := i) (t := t) (ix := ix) (g0 := g0) (row := f1.getD t []) (rws := f1.take t) (f1 := f1) (ds := ds) (Q := Q) (hL.ok t (by omega)) (by rw [h1]; exact hf) (by rw [List.length_take]; omega) (by omega)
      (by rw [← take_snoc f1 [] (by omega)]; exact put_l4 hL hm hds hi hQ d (t + 1) (by omega)) (f1.getD t []).length 0 (by omega)
    refine EvP.step (fun k => ?_) h5
    have e : rd_L9 f1 (t : Int) = f1.getD t [] := by unfold rd_L9; rw [Int.toNat_natCast]
    rw [impl_builder_store.l4, if_pos (by omega), if_pos (by omega), if_pos (by omega), e, h1, show ((ix.length : Int) == (ix.length : Int)) = true by simp, must_t, Option.bind_some]
    rfl
/-- The numbers of an item's regions. -/
theorem put_l3 {i : Nat} {ix : List Int} {f1 : List (List Int)} {ds : List S186} {Q : Int × Int × List S182 × List S186 × Int × Int × Bool → Prop} (hL : Lst m all.length ⟨ix, f1⟩) (hm : m ≤ 5) (hds : ds.length ≤ 4) (hi : i ≤ 4) (hall : all.length ≤ 6)
    (hQ : EvP (fun k => impl_builder_store.l2 k all ls (ls.length : Int) ((i + 1 : Nat) : Int) 0 0 false 0 0 (cvs all) (ds ++ [⟨0, 0, 0, ix, f1⟩])) Q) :
    ∀ d t : Nat, t + d = ix.length → EvP (fun k => impl_builder_store.l3 k all ls (ls.length : Int) (i : Int) ix (ix.length : Int) (t : Int) 0 0 false 0 0 (cvs all) ds ix f1 0 0 0 (ix.take t)) Q
  | 0, t, ht => by
    have h4 := put_l4 (ls := ls) (g0 := ix) hL hm hds hi hQ m 0 (by omega)
    refine EvP.step (fun k => ?_) h4
    rw [impl_builder_store.l3, if_neg (by omega), List.take_of_length_le (by omega)]
    rfl
  | d + 1, t, ht => by
    have hx := hL.ix.ok t (by show t < ix.length; omega)
    have hx0 : 0 ≤ ix.getD t 0 := hx.1
    have hx1 : ix.getD t 0 < (all.length : Int) := hx.2
    have hf : ix.length ≤ 5 := hL.ix.few
    refine EvP.step (fun k => ?_) (put_l3 hL hm hds hi hall hQ d (t + 1) (by omega))
    rw [impl_builder_store.l3, if_pos (by omega), if_pos (by omega), if_pos (by omega), rd_nat, if_pos (by omega), decide_eq_true hx1, must_t, Option.bind_some, small_is _ (by omega), Option.bind_some, if_pos (by rw [List.length_take]; omega), w64 _ (by omega), take_snoc ix 0 (by omega)]
    rfl
/-- The items. -/
theorem put_l2 (hls : AllD (Lst m all.length) z41 ls) (hm : m ≤ 5) (hl4 : ls.length ≤ 4) (hall : all.length ≤ 6) :
    ∀ d i : Nat, i + d = ls.length → Ev (fun k => impl_builder_store.l2 k all ls (ls.length : Int) (i : Int) 0 0 false 0 0 (cvs all) ((cvl ls).take i)) (0, 0, cvs all, cvl ls, 0, 0, false)
  | 0, i, hi => by
    refine Ev.step (f := fun _ => some (0, 0, cvs all, cvl ls, 0, 0, false)) (fun k => ?_) (Ev.now _)
    rw [impl_builder_store.l2, if_neg (by omega), List.take_of_length_le (by unfold cvl; rw [List.length_map]; omega)]
  | d + 1, i, hi => by
    have hlen : (cvl ls).length = ls.length := by unfold cvl; rw [List.length_map]
    have hL := hls i (by omega)
    have e : rd_T41 ls (i : Int) = ls.getD i z41 := by unfold rd_T41; rw [Int.toNat_natCast]
    have e2 : (cvl ls).getD i z186 = ⟨0, 0, 0, (ls.getD i z41).f0, (ls.getD i z41).f1⟩ := by
      unfold cvl
      rw [List.getD_eq_getElem?_getD, List.getD_eq_getElem?_getD, List.getElem?_map, List.getElem?_eq_getElem (show i < ls.length by omega)]
      rfl
    have ih := put_l2 hls hm hl4 hall d (i + 1) (by omega)
    rw [take_snoc (cvl ls) z186 (by omega), e2] at ih
    obtain ⟨r, hr, rfl⟩ := put_l3 (Q := fun r => r = (0, 0, cvs all, cvl ls, 0, 0, false)) (ds := (cvl ls).take i) (i := i) (ix := (ls.getD i z41).f0) (f1 := (ls.getD i z41).f1) hL hm (by rw [List.length_take]; omega) (by omega) hall ⟨_, ih, rfl⟩ (ls.getD i z41).f0.length 0 (by omega)
    refine Ev.step (fun k => ?_) hr
    rw [impl_builder_store.l2, if_pos (by omega), if_pos (by omega), if_pos (by omega), e]
    rfl
/-- The axes of a region. -/
theorem put_l1 {i : Nat} {R : List S36} {rg : List S182} {Q : Int × Int × List S182 × List S186 × Int × Int × Bool → Prop} (hR : Reg R n) (hn : n ≤ 3) (has : rg.length ≤ 6) (hi : i ≤ 6)
    (hQ : EvP (fun k => impl_builder_store.l0 k all ls (n : Int) all (all.length : Int) ((i + 1 : Nat) : Int) 0 0 false 0 0 (rg ++ [⟨R.map conv⟩])) Q) :
    ∀ d j : Nat, j + d = n → EvP (fun k => impl_builder_store.l1 k all ls (n : Int) all (all.length : Int) (i : Int) R (R.length : Int) (j : Int) 0 0 false 0 0 rg ((R.map conv).take j)) Q
  | 0, j, hj => by
    have hl := hR.len
    refine EvP.step (fun k => ?_) hQ
    rw [impl_builder_store.l1, if_neg (by omega), if_pos (by omega), w64 _ (by omega), List.take_of_length_le (by rw [List.length_map]; omega)]
    rfl
  | d + 1, j, hj => by
    have hl := hR.len
    obtain ⟨h0, h1, h2⟩ := ax16 (hR.ax j (by omega))
    refine EvP.step (fun k => ?_) (put_l1 hR hn has hi hQ d (j + 1) (by omega))
    have e2 : (R.map conv).getD j z184 = conv (R.getD j z36) := by
      have := rd184 R j
      unfold rd_T184 at this
      rwa [Int.toNat_natCast] at this
    rw [impl_builder_store.l1, if_pos (by omega), if_pos (by omega), if_pos (by omega), rd36, signed_is _ h0, Option.bind_some, signed_is _ h1, Option.bind_some, signed_is _ h2, Option.bind_some, if_pos (by rw [List.length_take]; omega), w64 _ (by omega), take_snoc (R.map conv) z184 (by rw [List.length_map]; omega), e2]
    rfl
/-- The regions, and all behind them. -/
theorem put_l0 (hS : Sto all n) (hn : n ≤ 3) (hls : AllD (Lst m all.length) z41 ls) (hm : m ≤ 5) (hl4 : ls.length ≤ 4) :
    ∀ d i : Nat, i + d = all.length → Ev (fun k => impl_builder_store.l0 k all ls (n : Int) all (all.length : Int) (i : Int) 0 0 false 0 0 ((cvs all).take i)) (0, 0, cvs all, cvl ls, 0, 0, false)
  | 0, i, hi => by
    have h2 := put_l2 hls hm hl4 hS.few ls.length 0 (by omega)
    refine Ev.step (fun k => ?_) h2
    rw [impl_builder_store.l0, if_neg (by omega), List.take_of_length_le (by unfold cvs; rw [List.length_map]; omega)]
    rfl
  | d + 1, i, hi => by
    have hlen : (cvs all).length = all.length := by unfold cvs; rw [List.length_map]
    have hf := hS.few
    have hR := hS.reg i (by omega)
    have e2 : (cvs all).getD i z182 = ⟨(all.getD i []).map conv⟩ := by
      have := rd182 all (i : Int)
      unfold rd_T182 at this
      rwa [Int.toNat_natCast] at this
    have ih := put_l0 hS hn hls hm hl4 d (i + 1) (by omega)
    rw [take_snoc (cvs all) z182 (by omega), e2] at ih
    obtain ⟨r, hr, rfl⟩ := put_l1 (all := all) (ls := ls) (Q := fun r => r = (0, 0, cvs all, cvl ls, 0, 0, false)) (i := i) (rg := (cvs all).take i) hR hn (by rw [List.length_take]; omega) (by omega) ⟨_, ih, rfl⟩ n 0 (by omega)
    refine Ev.step (fun k => ?_) hr
    have e : rd_L8 all (i : Int) = all.getD i [] := by rw [rdL8, Int.toNat_natCast]
    rw [impl_builder_store.l0, if_pos (by omega), if_pos (by omega), if_pos (by omega), e, hR.len, show ((n : Int) == (n : Int)) = true by simp, must_t, Option.bind_some]
    rfl
theorem put_coords {C : List Int} (hC : AllD I16 0 C) (hl : C.length ≤ 3) : ∀ d i : Nat, i + d = C.length → Ev (fun k => impl_builder_coords.l0 k (C.take i) C (C.length : Int) (i : Int) 0 0 false) (C, 0, 0, false)
  | 0, i, hi => by
    refine Ev.step (f := fun _ => some (C, 0, 0, false)) (fun k => ?_) (Ev.now _)
    rw [impl_builder_coords.l0, if_neg (by omega), List.take_of_length_le (by omega)]
  | d + 1, i, hi => by
    refine Ev.step (fun k => ?_) (put_coords hC hl d (i + 1) (by omega))
    rw [impl_builder_coords.l0, if_pos (by omega), if_pos (by omega), if_pos (by omega), rd_nat, signed_is _ (hC i (by omega)), Option.bind_some, if_pos (by rw [List.length_take]; omega), w64 _ (by omega), take_snoc C 0 (by omega)]
    rfl
theorem getDelta_is {C : List Int} (hs : St all ls C n m) {p q : Nat} (hp : p < ls.length) (hq : q < m) :
    EvP (fun k => tables_ItemVarStore_GetDelta.f k 0 0 (cvs all) (cvl ls) (p : Int) (q : Int) C) (fun r => ∃ z, Fin .f32 r z ∧ Cl z (SumN ((ls.getD p z41).f1.getD q []) (wgt all (ls.getD p z41).f0 C n) (ls.getD p z41).f0.length) (bd .f32 (AbsN ((ls.getD p z41).f1.getD q []) (ls.getD p z41).f0.length) (ls.getD p z41).f0.length)) := by
  obtain ⟨n0, n3, m0, m5, all0, sto, l0, l4, lst, crd⟩ := hs
  have hL := lst p hp
  have e186 : rd_T186 (cvl ls) (p : Int) = ⟨0, 0, 0, (ls.getD p z41).f0, (ls.getD p z41).f1⟩ := by
    unfold rd_T186 cvl
    rw [Int.toNat_natCast, List.getD_eq_getElem?_getD, List.getD_eq_getElem?_getD, List.getElem?_map, List.getElem?_eq_getElem hp]
    rfl
  generalize ls.getD p z41 = it at *
  have e5 : rd_L5 it.f1 (q : Int) = it.f1.getD q [] := by unfold rd_L5; rw [Int.toNat_natCast]
  have hlen : (cvl ls).length = ls.length := by unfold cvl; rw [List.length_map]
  have hr : it.f1.length = m := hL.rows
  have hrow := hL.len q hq
  have main := getDelta_loop (ds := cvl ls) sto hL.ix crd n3 (rowI (hL.ok q hq)) hrow it.f0.length 0 (Nat.zero_add _) 0 0 zero32 (by unfold SumN AbsN; rw [bd0]; exact Cl.refl _ (by grind))
  rw [Int.natCast_zero] at main
  unfold tables_ItemVarStore_GetDelta.f
  rw [w64 (p : Int) (by omega), w64 (q : Int) (by omega), e186]
  dsimp only
  refine EvP.neg (by omega) (EvP.pos (by omega) (EvP.pos (by omega) (EvP.neg (by omega) (EvP.pos (by omega) (EvP.pos (by omega) ?_)))))
  rw [e5]
  exact main
end
/-! ### the law's own comparison -/
def c0R : Rat := ((5764607523034235 : Nat) : Rat) * P2 (-59)
def ccR : Rat := ((4722366482869645 : Nat) : Rat) * P2 (-71)
theorem c0_fin : Fin .f64 4576918229304087675 c0R := ⟨false, 5764607523034235, -59, by decide, rfl⟩
theorem cc_fin : Fin .f64 4521832792735477133 ccR := ⟨false, 4722366482869645, -71, by decide, rfl⟩
theorem c0_is : 99 / 10000 ≤ c0R ∧ c0R ≤ 101 / 10000 := by unfold c0R; decide +kernel
theorem cc_is : 199 / 100000000 ≤ ccR ∧ ccR ≤ 201 / 100000000 := by unfold ccR; decide +kernel
theorem fmx_fin {a b : Nat} {x y : Rat} (ha : Fin .f64 a x) (hb : Fin .f64 b y) : fmok .f64 a b = true ∧ ∃ z, Fin .f64 (fmx .f64 a b) z ∧ (z = x ∨ z = y) := by
  obtain ⟨h1, h2, h3, _⟩ := order_fin ha hb
  unfold fmok fmx
  by_cases hlt : x < y
  · rw [decide_eq_true hlt] at h1
    rw [eq_of_beq h1]
    exact ⟨rfl, y, hb, Or.inr rfl⟩
  by_cases heq : x = y
  · rw [decide_eq_true heq] at h2
    rw [eq_of_beq h2]
    refine ⟨rfl, ?_⟩
    dsimp only
    split
    · exact ⟨y, hb, Or.inr rfl⟩
    · exact ⟨x, ha, Or.inl rfl⟩
  · have hgt : y < x := by grind
    rw [decide_eq_true hgt] at h3
    rw [eq_of_beq h3]
    exact ⟨rfl, x, ha, Or.inl rfl⟩
theorem bd_le (k : FloatKind) {X n : Nat} (hn : n ≤ 5) : bd k X n ≤ (X : Rat) * (27 * UL k) + 20 * UL k := by
  have hU := (UL_small k).1
  have hX : (0 : Rat) ≤ (X : Rat) := Rat.natCast_nonneg
  have h5 := natR_le hn
  have e : ((5 : Nat) : Rat) = 5 := rfl
  rw [e] at h5
  have h1 := mul_mono h5 (show 0 ≤ UL k by grind)
  have h2 := mul_mono (show (17 + 2 * (n : Rat)) * UL k ≤ 27 * UL k by grind) hX
  unfold bd
  grind
theorem UL64 : UL .f64 ≤ 1 / 1000000000000 := by unfold UL; decide +kernel
theorem UL32 : UL .f32 ≤ 597 / 10000000000 := by unfold UL; decide +kernel
theorem mxabs (x : Int) (h : I16 x) : mx x (wrap64 (-x)) = (x.natAbs : Int) := by
  unfold I16 at h
  rw [w64 _ (by omega)]
  unfold mx
  split <;> omega
/-! ### the map of glyphs -/
def MapOk (m : List S48) (nl nm : Nat) : Prop := AllD (fun x : S48 => 0 ≤ x.f0 ∧ x.f0 < (nl : Int) ∧ 0 ≤ x.f1 ∧ x.f1 < (nm : Int)) z48 m
def cvm (m : List S48) : List S115 := m.map fun x => ⟨x.f0, x.f1⟩
/-- Where a glyph leads. -/
def lead (m : List S48) (g : Nat) : Int × Int := if m.length = 0 then (0, (g : Int)) else ((m.getD (min g (m.length - 1)) z48).f0, (m.getD (min g (m.length - 1)) z48).f1)
theorem rd115 (m : List S48) (i : Nat) (h : i < m.length) : rd_T115 (cvm m) (i : Int) = ⟨(m.getD i z48).f0, (m.getD i z48).f1⟩ := by
  unfold rd_T115 cvm
  rw [Int.toNat_natCast, List.getD_eq_getElem?_getD, List.getD_eq_getElem?_getD, List.getElem?_map, List.getElem?_eq_getElem h]
  rfl
theorem index_is (m : List S48) (hm : m.length ≤ 20) (g : Nat) (hg : g ≤ 255) : tables_DeltaSetMapping_Index.f 0 0 (cvm m) (g : Int) = some (lead m g) := by
  have hl : (cvm m).length = m.length := by unfold cvm; rw [List.length_map]
  unfold tables_DeltaSetMapping_Index.f lead
  rw [hl]
  by_cases h0 : m.length = 0
  · rw [if_pos (by omega), if_pos h0]
  rw [if_neg (by omega), if_neg h0, w64 (g : Int) (by omega)]
  by_cases h1 : (g : Int) ≥ (m.length : Int)
  · rw [if_pos h1, w64 ((m.length : Int) - 1) (by omega), u16w _ (by omega), if_pos (by omega), if_pos (by omega), show (m.length : Int) - 1 = ((m.length - 1 : Nat) : Int) by omega, rd115 m _ (by omega), show min g (m.length - 1) = m.length - 1 by omega]
  · rw [if_neg h1, if_pos (by omega), if_pos (by omega), rd115 m _ (by omega), show min g (m.length - 1) = g by omega]
section
variable {all : List (List S36)} {ls : List S41} {n m : Nat}
theorem getDelta_none {C : List Int} (hs : St all ls C n m) {p q : Nat} (hp : p < ls.length) (hq : ¬ q < m) (hq2 : q ≤ 255) (k : Nat) : tables_ItemVarStore_GetDelta.f k 0 0 (cvs all) (cvl ls) (p : Int) (q : Int) C = some 0 := by
  have e186 : rd_T186 (cvl ls) (p : Int) = ⟨0, 0, 0, (ls.getD p z41).f0, (ls.getD p z41).f1⟩ := by
    unfold rd_T186 cvl
    rw [Int.toNat_natCast, List.getD_eq_getElem?_getD, List.getD_eq_getElem?_getD, List.getElem?_map, List.getElem?_eq_getElem hp]
    rfl
  have hlen : (cvl ls).length = ls.length := by unfold cvl; rw [List.length_map]
  have hl4 := hs.l4
  have hr : (ls.getD p z41).f1.length = m := (hs.lst p hp).rows
  unfold tables_ItemVarStore_GetDelta.f
  rw [w64 (p : Int) (by omega), w64 (q : Int) (by omega), e186, if_neg (by omega), if_pos (by omega), if_pos (by omega)]
  dsimp only
  rw [if_pos (by rw [hr]; omega)]
/-- What is told of an item's delta: it is near the sum, or 0 where there is no such item. -/
def Tell (all : List (List S36)) (ls : List S41) (C : List Int) (n m p q : Nat) (r : Nat) : Prop :=
  ∃ z, Fin .f32 r z ∧ (q < m → Cl z (SumN ((ls.getD p z41).f1.getD q []) (wgt all (ls.getD p z41).f0 C n) (ls.getD p z41).f0.length) (bd .f32 (AbsN ((ls.getD p z41).f1.getD q []) (ls.getD p z41).f0.length) (ls.getD p z41).f0.length)) ∧ (¬ q < m → z = 0)
theorem hvar_is {C : List Int} (hs : St all ls C n m) {mp : List S48} (hm : mp.length ≤ 20) {g p q : Nat} (hg : g ≤ 255) (hlead : lead mp g = ((p : Int), (q : Int))) (hp : p < ls.length) (hq2 : q ≤ 255) :
    EvP (fun k => tables_HVAR_AdvanceDelta.f k 0 0 0 0 (cvs all) (cvl ls) 0 0 (cvm mp) () () (g : Int) C) (Tell all ls C n m p q) := by
  unfold tables_HVAR_AdvanceDelta.f
  refine EvP.bind (Ev.const (index_is mp hm g hg)) ?_
  rw [hlead]
  dsimp only
  by_cases hq : q < m
  · refine EvP.mono (getDelta_is hs hp hq) ?_
    rintro r ⟨z, hz, hc⟩
    exact ⟨z, hz, fun _ => hc, fun h => absurd hq h⟩
  · refine EvP.congr (f := fun _ => some 0) (fun k => getDelta_none hs hp hq hq2 k) (EvP.now _ ⟨0, zero32, fun h => absurd h hq, fun _ => rfl⟩)
theorem put_map {C : List Int} (hs : St all ls C n m) {mp : List S48} (hm : mp.length ≤ 20) (hok : MapOk mp ls.length m) {g p q : Nat} (hg : g ≤ 255) (hlead : lead mp g = ((p : Int), (q : Int))) (hp : p < ls.length) (hq2 : q ≤ 255) :
    ∀ d i : Nat, i + d = mp.length → EvP (fun k => impl_AdvanceDelta.l0 k (g : Int) C mp (mp.length : Int) (i : Int) 0 0 false 0 0 0 0 (cvs all) (cvl ls) 0 0 ((cvm mp).take i) () ()) (fun r => r.2 = true ∧ Tell all ls C n m p q r.1)
  | 0, i, hi => by
    have hCl := hs.crd.len
    have hn3 := hs.n3
    have hC : AllD I16 0 C := by
      intro j hj
      have := hs.crd.ok j (by omega)
      unfold I16
      omega
    have hl : (cvm mp).length = mp.length := by unfold cvm; rw [List.length_map]
    have hco := put_coords hC (by omega) C.length 0 (Nat.zero_add _)
    rw [Int.natCast_zero, List.take_zero] at hco
    have h37 := hvar_is hs hm hg hlead hp hq2
    refine EvP.step (fun k => by rw [impl_AdvanceDelta.l0, if_neg (by omega), List.take_of_length_le (by omega)]) (EvP.bind (Ev.const (small_is (g : Int) (by omega))) ?_)
    dsimp only
    unfold impl_builder_coords.f
    refine EvP.bind hco ?_
    dsimp only
    refine EvP.neg (by decide) (EvP.bindP h37 (fun r h => EvP.now _ ⟨rfl, h⟩))
  | d + 1, i, hi => by
    have hl : (cvm mp).length = mp.length := by unfold cvm; rw [List.length_map]
    have ho := hok i (by omega)
    have hl4 := hs.l4
    have hm5 := hs.m5
    have e : rd_T48 mp (i : Int) = mp.getD i z48 := by unfold rd_T48; rw [Int.toNat_natCast]
    have e2 : (cvm mp).getD i z115 = ⟨(mp.getD i z48).f0, (mp.getD i z48).f1⟩ := by
      have := rd115 mp i (by omega)
      unfold rd_T115 at this
      rwa [Int.toNat_natCast] at this
    have ih := put_map hs hm hok hg hlead hp hq2 d (i + 1) (by omega)
    refine EvP.step (fun k => ?_) ih
    rw [impl_AdvanceDelta.l0, if_pos (by omega), if_pos (by omega), if_pos (by omega), e, small_is _ (by omega), Option.bind_some, small_is _ (by omega), Option.bind_some, if_pos (by rw [List.length_take]; omega), w64 _ (by omega), take_snoc (cvm mp) z115 (by omega), e2]
    rfl
/-- What the package tells of a glyph. -/
theorem advance_is {C : List Int} (hs : St all ls C n m) {mp : List S48} (hm : mp.length ≤ 20) (hok : MapOk mp ls.length m) {g p q : Nat} (hg : g ≤ 255) (hlead : lead mp g = ((p : Int), (q : Int))) (hp : p < ls.length) (hq2 : q ≤ 255) :
    EvP (fun k => impl_AdvanceDelta.f k all ls mp (g : Int) C) (fun r => r.2 = true ∧ Tell all ls C n m p q r.1) := by
  have main := put_map hs hm hok hg hlead hp hq2 mp.length 0 (Nat.zero_add _)
  rw [Int.natCast_zero, List.take_zero] at main
  have h1 := put_l0 hs.sto hs.n3 hs.lst hs.m5 hs.l4 all.length 0 (Nat.zero_add _)
  rw [Int.natCast_zero, List.take_zero] at h1
  unfold impl_AdvanceDelta.f impl_builder_store.f
  rw [hs.crd.len]
  refine EvP.bind h1 ?_
  dsimp only
  exact main
end

/-! ### the law of a glyph's delta -/
theorem end_is {r W SL : Nat} {z y u e : Rat} (fz : Fin .f32 r z) (fy : Fin .f64 W y) (fu : Fin .f64 SL u) (hz : z ≤ 400000 ∧ -z ≤ 400000) (hc : Cl z y e) (_ : 0 ≤ e) (he : e ≤ 1) (hu : e + 2 * UL .f64 ≤ u) :
    fcok .f32 r .f64 = true ∧ fok .sub .f64 (fc .f32 r .f64) W = true ∧ fmok .f64 (fv .sub .f64 (fc .f32 r .f64) W) (Go.Op.negFloat .f64 (fv .sub .f64 (fc .f32 r .f64) W)) = true ∧
    (FloatKind.f64.format.order (fmx .f64 (fv .sub .f64 (fc .f32 r .f64) W) (Go.Op.negFloat .f64 (fv .sub .f64 (fc .f32 r .f64) W))) SL == some .lt || FloatKind.f64.format.order (fmx .f64 (fv .sub .f64 (fc .f32 r .f64) W) (Go.Op.negFloat .f64 (fv .sub .f64 (fc .f32 r .f64) W))) SL == some .eq) = true := by
  have hP60 := P60
  have hEL := EL_UL .f64
  have hU0 := (UL_small .f64).1
  have hEL0 := (EL_small .f64).1
  obtain ⟨g, hgc, fg⟩ := widen_fin fz (by grind) (by grind)
  have ok1 : fcok .f32 r .f64 = true := by unfold fcok; rw [hgc]; rfl
  have ok2 : fc .f32 r .f64 = g := by unfold fc; rw [hgc]; rfl
  obtain ⟨c1, c2⟩ := hc
  obtain ⟨r1, z1, hr1, f1, n1, _⟩ := sub_fin fg fy (by grind) (by grind)
  have k1 := n1.cl (B := 1) (by grind) (by grind)
  obtain ⟨k1a, k1b⟩ := k1
  obtain ⟨o1, p1⟩ := fv_of hr1
  obtain ⟨o5, z5, f5, e5⟩ := fmx_fin f1 (neg_fin f1)
  obtain ⟨w1, w2, _⟩ := order_fin f5 fu
  have fin1 : z1 ≤ u := by grind
  have fin2 : -z1 ≤ u := by grind
  have fin : z5 ≤ u := by rcases e5 with rfl | rfl <;> assumption
  refine ⟨ok1, by rw [ok2]; exact o1, by rw [ok2, p1]; exact o5, ?_⟩
  rw [ok2, p1, w1, w2]
  by_cases h : z5 < u
  · rw [decide_eq_true h]; rfl
  · rw [decide_eq_true (show z5 = u by grind), Bool.or_true]
section
variable {all : List (List S36)} {ls : List S41} {n m : Nat}
/-- The slack: a hundredth, and 2 millionths of each number. -/
theorem slack_loop {C : List Int} {mp : List S48} {g : Int} {xs : List Int} (hx : AllD I16 0 xs) (hl : xs.length ≤ 5) {want : Nat}
    (hE : ∀ b v, Fin .f64 b v → Cl v (c0R + (AbsN xs xs.length : Rat) * ccR) ((xs.length : Rat) * (4 * UL .f64)) → EvP (fun k => laws_FnAdvanceDelta.l1 k g all ls C mp want b xs (xs.length : Int) (xs.length : Int)) (fun r => r = true)) :
    ∀ d i : Nat, i + d = xs.length → ∀ b v, Fin .f64 b v → Cl v (c0R + (AbsN xs i : Rat) * ccR) ((i : Rat) * (4 * UL .f64)) → EvP (fun k => laws_FnAdvanceDelta.l1 k g all ls C mp want b xs (xs.length : Int) (i : Int)) (fun r => r = true)
  | 0, i, hi, b, v, hb, hv => by
    obtain rfl : i = xs.length := by omega
    exact hE b v hb hv
  | d + 1, i, hi, b, v, hb, hv => by
    have hP60 := P60
    have hEL := EL_UL .f64
    have hU0 := (UL_small .f64).1
    have hU1 := UL64
    have hEL0 := (EL_small .f64).1
    have hc0 := c0_is
    have hcc := cc_is
    have hxi := hx i (by omega)
    have hxi' : (xs.getD i 0).natAbs ≤ 32768 := by unfold I16 at hxi; omega
    have fx := ofInt_fin .f64 ((xs.getD i 0).natAbs : Int) (by omega)
    have hA1 : ((xs.getD i 0).natAbs : Rat) ≤ 40000 := Rat.le_trans (Rat.natCast_le_natCast.2 hxi') (show ((32768 : Nat) : Rat) ≤ 40000 by decide +kernel)
    have hA0 : (0 : Rat) ≤ ((xs.getD i 0).natAbs : Rat) := Rat.natCast_nonneg
    have eA : (((xs.getD i 0).natAbs : Int) : Rat) = ((xs.getD i 0).natAbs : Rat) := rfl
    have es : (AbsN xs (i + 1) : Rat) = (AbsN xs i : Rat) + ((xs.getD i 0).natAbs : Rat) := by rw [AbsN, Rat.natCast_add]
    have hS1 : (AbsN xs i : Rat) ≤ 200000 := by
      have h1 := AbsN_le (rowI hx).ok i
      have h2 : i * 32768 ≤ 5 * 32768 := Nat.mul_le_mul_right _ (by omega)
      exact Rat.le_trans (Rat.natCast_le_natCast.2 (show AbsN xs i ≤ 163840 by omega)) (show ((163840 : Nat) : Rat) ≤ 200000 by decide +kernel)
    have hS0 : (0 : Rat) ≤ (AbsN xs i : Rat) := Rat.natCast_nonneg
    have hi5 := natR_le (show i ≤ 5 by omega)
    have e5 : ((5 : Nat) : Rat) = 5 := rfl
    rw [e5] at hi5
    have m1 := mul_mono hA1 (show 0 ≤ ccR by grind)
    have m2 := mul_mono hS1 (show 0 ≤ ccR by grind)
    have m3 := Rat.mul_nonneg hA0 (show 0 ≤ ccR by grind)
    have m4 := Rat.mul_nonneg hS0 (show 0 ≤ ccR by grind)
    have m5 := mul_mono hi5 (show 0 ≤ 4 * UL .f64 by grind)
    obtain ⟨v1, v2⟩ := hv
    rw [eA] at fx
    obtain ⟨t, zt, ht, ft, nt, _⟩ := mul_fin fx cc_fin (by grind) (by grind)
    obtain ⟨kt1, kt2⟩ := nt.cl (B := 1) (by grind) (by grind)
    obtain ⟨s, zs, hs, fs, ns, _⟩ := add_fin hb ft (by grind) (by grind)
    obtain ⟨ks1, ks2⟩ := ns.cl (B := 2) (by grind) (by grind)
    obtain ⟨o1, p1⟩ := fv_of ht
    obtain ⟨o2, p2⟩ := fv_of hs
    refine EvP.step (fun k => ?_) (slack_loop hx hl hE d (i + 1) (by omega) s zs fs ?_)
    · rw [laws_FnAdvanceDelta.l1, if_pos (by omega), if_pos (by omega), if_pos (by omega), rd_nat, mxabs _ hxi, if_pos o1, p1, if_pos o2, p2, w64 _ (by omega)]
      rfl
    · rw [es, natR, Rat.add_mul]
      unfold Cl
      grind
theorem law_j3 {C : List Int} (hs : St all ls C n m) {mp : List S48} (hm : mp.length ≤ 20) (hok : MapOk mp ls.length m) {g p q : Nat} (hg : g ≤ 255) (hlead : lead mp g = ((p : Int), (q : Int))) (hp : p < ls.length) (hq2 : q ≤ 255) :
    EvP (fun k => laws_FnAdvanceDelta.j3 k (g : Int) all ls C mp (p : Int) (q : Int)) (fun r => r = true) := by
  have hadv := advance_is hs hm hok hg hlead hp hq2
  have hU0 := (UL_small .f64).1
  have hU1 := UL64
  have hU3 := (UL_small .f32).1
  have hU32 := UL32
  have hc0 := c0_is
  have hcc := cc_is
  have e1 : rd_T41 ls (p : Int) = ls.getD p z41 := by unfold rd_T41; rw [Int.toNat_natCast]
  have hL := hs.lst p hp
  have hr : (ls.getD p z41).f1.length = m := hL.rows
  by_cases hq : q < m
  · have hrow := hL.len q hq
    have hI := hL.ok q hq
    have hfew := hL.ix.few
    have href := ref_loop (all := all) (rs := (ls.getD p z41).f0) (C := C) (rows := (ls.getD p z41).f1) (item := q) (n := n) (g0 := (ls.getD p z41).f0) hs.sto hL.ix hs.crd hs.n3 (by omega) (rowI hI) hrow (ls.getD p z41).f0.length 0 (Nat.zero_add _) 0 0 zero64 (by unfold SumN AbsN; rw [bd0]; exact Cl.refl _ (by grind))
    unfold Tell at hadv
    generalize ls.getD p z41 = it at *
    refine EvP.step (fun k => by rw [laws_FnAdvanceDelta.j3, if_pos (by omega), if_pos (by omega), e1, if_pos (by omega)]) (EvP.bindP (P := fun r => ∃ z, Fin .f64 r z ∧ Cl z (SumN (it.f1.getD q []) (wgt all it.f0 C n) it.f0.length) (bd .f64 (AbsN (it.f1.getD q []) it.f0.length) it.f0.length)) (by unfold spec_DeltaRef.f; exact href) ?_)
    rintro want ⟨y, fy, cy⟩
    refine EvP.pos (by omega) ?_
    have e9 : rd_L9 it.f1 (q : Int) = it.f1.getD q [] := by unfold rd_L9; rw [Int.toNat_natCast]
    rw [e9]
    rw [← hrow] at cy hadv hfew
    have hS := SumN_abs (xs := it.f1.getD q []) (wgt01 all it.f0 C n) (it.f1.getD q []).length
    generalize hxs : it.f1.getD q [] = xs at *
    refine slack_loop hI hfew ?_ xs.length 0 (Nat.zero_add _) _ c0R c0_fin (by unfold AbsN; exact ⟨by show c0R ≤ c0R + 0 * ccR + 0 * _; grind, by show c0R + 0 * ccR ≤ c0R + 0 * _; grind⟩)
    intro b v fb cv
    have hX0 : (0 : Rat) ≤ (AbsN xs xs.length : Rat) := Rat.natCast_nonneg
    have hX1 : (AbsN xs xs.length : Rat) ≤ 200000 := by
      have h1 := AbsN_le (rowI hI).ok xs.length
      have h2 : xs.length * 32768 ≤ 5 * 32768 := Nat.mul_le_mul_right _ hfew
      exact Rat.le_trans (Rat.natCast_le_natCast.2 (show AbsN xs xs.length ≤ 163840 by omega)) (show ((163840 : Nat) : Rat) ≤ 200000 by decide +kernel)
    have b64 := bd_le .f64 (X := AbsN xs xs.length) hfew
    have b32 := bd_le .f32 (X := AbsN xs xs.length) hfew
    have h5 := natR_le hfew
    have e5 : ((5 : Nat) : Rat) = 5 := rfl
    rw [e5] at h5
    have m5 := mul_mono h5 (show 0 ≤ 4 * UL .f64 by grind)
    have q64 := mul_mono (show 27 * UL .f64 ≤ 27 / 1000000000000 by grind) hX0
    have q32 := mul_mono (show 27 * UL .f32 ≤ 27 * 597 / 10000000000 by grind) hX0
    have qcc := mul_mono hcc.1 hX0
    refine EvP.step (fun k => by rw [laws_FnAdvanceDelta.l1, if_neg (by omega), w64 (g : Int) (by omega)]) (EvP.bindP hadv ?_)
    rintro ⟨r, ok⟩ ⟨rfl, z, fz, cz, _⟩
    have cz := cz hq
    have dist : Cl z y ((AbsN xs xs.length : Rat) * (1612 / 1000000000) + 2 / 1000000) := by unfold Cl at *; grind
    obtain ⟨t1, t2, t3, t4⟩ := end_is fz fy fb (by unfold Cl at cz; grind) dist (by grind) (by grind) (by unfold Cl at cv; grind)
    dsimp only
    refine EvP.pos t1 (EvP.pos t2 (EvP.pos rfl (EvP.pos t3 (EvP.now _ t4))))
  · refine EvP.step (fun k => by rw [laws_FnAdvanceDelta.j3, if_pos (by omega), if_pos (by omega), e1, if_neg (by omega), w64 (g : Int) (by omega)]) (EvP.bindP hadv ?_)
    rintro ⟨r, ok⟩ ⟨rfl, z, fz, _, hz0⟩
    have hz0 := hz0 hq
    subst hz0
    obtain ⟨t1, t2, t3, t4⟩ := end_is fz zero64 c0_fin (by grind) (Cl.refl 0 (e := 0) (by grind)) (by grind) (by grind) (by grind)
    dsimp only
    refine EvP.pos t1 (EvP.pos t2 (EvP.pos rfl (EvP.pos t3 (EvP.now _ t4))))
end

theorem law_j2 {all : List (List S36)} {ls : List S41} {n m : Nat} {C : List Int} (hs : St all ls C n m) {mp : List S48} (hm : mp.length ≤ 20) (hok : MapOk mp ls.length m) {g : Nat} (hg : g ≤ 255) :
    EvP (fun k => laws_FnAdvanceDelta.j2 k (g : Int) all ls C mp) (fun r => r = true) := by
  have hl0 := hs.l0
  have hl4 := hs.l4
  have hm5 := hs.m5
  by_cases h0 : mp.length = 0
  · have main := law_j3 hs hm hok hg (p := 0) (q := g) (by unfold lead; rw [if_pos h0]; rfl) (by omega) hg
    refine EvP.step (fun k => ?_) main
    rw [laws_FnAdvanceDelta.j2, if_neg (by omega), w64 (g : Int) (by omega)]
    rfl
  · have ho := hok (min g (mp.length - 1)) (by omega)
    have hmn : mn (wrap64 (g : Int)) (wrap64 ((mp.length : Int) - 1)) = ((min g (mp.length - 1) : Nat) : Int) := by
      rw [w64 (g : Int) (by omega), w64 ((mp.length : Int) - 1) (by omega)]
      unfold mn
      split <;> omega
    have e : rd_T48 mp ((min g (mp.length - 1) : Nat) : Int) = mp.getD (min g (mp.length - 1)) z48 := by unfold rd_T48; rw [Int.toNat_natCast]
    have hlead : lead mp g = ((mp.getD (min g (mp.length - 1)) z48).f0, (mp.getD (min g (mp.length - 1)) z48).f1) := by unfold lead; rw [if_neg h0]
    have hj : (min g (mp.length - 1) : Nat) < mp.length := by omega
    generalize mp.getD (min g (mp.length - 1)) z48 = x at *
    obtain ⟨p, hp⟩ : ∃ p : Nat, x.f0 = (p : Int) := ⟨x.f0.toNat, by omega⟩
    obtain ⟨q, hq⟩ : ∃ q : Nat, x.f1 = (q : Int) := ⟨x.f1.toNat, by omega⟩
    have main := law_j3 hs hm hok hg (p := p) (q := q) (by rw [hlead, hp, hq]) (by omega) (by omega)
    refine EvP.step (fun k => ?_) main
    rw [laws_FnAdvanceDelta.j2, if_pos (by omega), hmn, if_pos (by omega), if_pos (by omega), e, hp, hq]
theorem law_l0 {all : List (List S36)} {ls : List S41} {n m : Nat} {C : List Int} (hs : St all ls C n m) {tos : List S47} (hto : AllD (fun x : S47 => (0 ≤ x.f0 ∧ x.f0 ≤ 255) ∧ (0 ≤ x.f1 ∧ x.f1 ≤ 255)) z47 tos) {g : Nat} (hg : g ≤ 255) :
    ∀ d i : Nat, i + d = min tos.length 20 → ∀ mp : List S48, mp.length = i → MapOk mp ls.length m → EvP (fun k => laws_FnAdvanceDelta.l0 k tos (g : Int) all ls C mp (i : Int)) (fun r => r = true)
  | 0, i, hi, mp, hl, hok => by
    refine EvP.step (fun k => ?_) (law_j2 hs (by omega) hok hg)
    rw [laws_FnAdvanceDelta.l0]
    by_cases h : (i : Int) < (tos.length : Int)
    · rw [if_pos h, if_neg (by omega)]
    · rw [if_neg h]
  | d + 1, i, hi, mp, hl, hok => by
    have hl0 := hs.l0
    have hl4 := hs.l4
    have hm0' := hs.m0
    have hm5 := hs.m5
    have e0 : rd_T41 ls 0 = ls.getD 0 z41 := rfl
    have hm0 : (ls.getD 0 z41).f1.length = m := (hs.lst 0 (by omega)).rows
    have e : rd_T47 tos (i : Int) = tos.getD i z47 := by unfold rd_T47; rw [Int.toNat_natCast]
    have hx := hto i (by omega)
    have a1 := Int.tmod_nonneg (ls.length : Int) hx.1.1
    have a2 := Int.tmod_lt_of_pos (tos.getD i z47).f0 (show (0 : Int) < (ls.length : Int) by omega)
    have b1 := Int.tmod_nonneg (m : Int) hx.2.1
    have b2 := Int.tmod_lt_of_pos (tos.getD i z47).f1 (show (0 : Int) < (m : Int) by omega)
    have ih := law_l0 hs hto hg d (i + 1) (by omega) (mp ++ [⟨Int.tmod (tos.getD i z47).f0 (ls.length : Int), Int.tmod (tos.getD i z47).f1 (m : Int)⟩]) (by rw [List.length_append, hl]; rfl) (AllD.snoc hok ⟨a1, a2, b1, b2⟩)
    refine EvP.step (fun k => ?_) ih
    rw [laws_FnAdvanceDelta.l0, if_pos (by omega), if_pos (by omega), if_pos (by omega), if_neg (by omega), if_pos (by omega), e0, hm0, if_neg (by omega), if_pos (by omega), e, w64 (tos.getD i z47).f0 (by omega), w64 (tos.getD i z47).f1 (by omega), w64 _ (by omega)]
    rfl
theorem law_j0 {l0 : List (List S161)} {l1 l2 : List (List Int)} {l3 : List S47} {a4 : Int} {l5 : List Int} (h0 : AllD (fun y => AllD Tri z161 y) [] l0) (h1 : AllD (fun y => AllD (fun x => 0 ≤ x ∧ x ≤ 255) 0 y) [] l1) (h2 : AllD (fun y => AllD I16 0 y) [] l2) (h3 : AllD (fun x : S47 => (0 ≤ x.f0 ∧ x.f0 ≤ 255) ∧ (0 ≤ x.f1 ∧ x.f1 ≤ 255)) z47 l3) (h4 : 0 ≤ a4 ∧ a4 ≤ 255) (h5 : AllD I16 0 l5) :
    ∀ b : Bool, EvP (fun k => laws_FnAdvanceDelta.j0 k l0 l1 l2 l3 a4 l5 b) (fun r => r = true)
  | true => by
    refine EvP.step (f := fun _ => some true) (fun k => ?_) (EvP.now _ rfl)
    rw [laws_FnAdvanceDelta.j0, if_pos rfl]
  | false => by
    refine EvP.step (fun k => by rw [laws_FnAdvanceDelta.j0, if_neg (by decide)]) (EvP.bindP (some_store h0 h1 h2 h5) ?_)
    rintro ⟨all, ls, C⟩ hg
    dsimp only
    by_cases hz : (all.length : Int) = 0
    · exact EvP.pos hz (EvP.now _ rfl)
    refine EvP.neg hz ?_
    rcases hg with hg | ⟨n, m, hs⟩
    · exact absurd (show all.length = 0 from hg) (by omega)
    have hs' : St all ls C n m := hs
    obtain ⟨g, hg⟩ : ∃ g : Nat, a4 = (g : Int) := ⟨a4.toNat, by omega⟩
    subst hg
    exact law_l0 hs' h3 (by omega) (min l3.length 20) 0 (by omega) [] rfl AllD.nil
theorem FnAdvanceDelta : laws_FnAdvanceDelta.Pure := by
  intro l0 l1 l2 l3 a4 l5 _ g0 _ g1 _ g2 _ g3 g4 _ _ g5
  have h0 : AllD (fun y => AllD Tri z161 y) [] l0 := AllD.mem (fun y hy => AllD.mem (fun x hx => by
    obtain ⟨a, b, c⟩ := (g0 y hy).2 x hx
    exact ⟨wf_i16 a, wf_i16 b, wf_i16 c⟩))
  have h1 : AllD (fun y => AllD (fun x => 0 ≤ x ∧ x ≤ 255) 0 y) [] l1 := AllD.mem (fun y hy => AllD.mem (fun x hx => wf_u8 ((g1 y hy).2 x hx)))
  have h2 : AllD (fun y => AllD I16 0 y) [] l2 := AllD.mem (fun y hy => AllD.mem (fun x hx => wf_i16 ((g2 y hy).2 x hx)))
  have h3 : AllD (fun x : S47 => (0 ≤ x.f0 ∧ x.f0 ≤ 255) ∧ (0 ≤ x.f1 ∧ x.f1 ≤ 255)) z47 l3 := AllD.mem (fun x hx => ⟨wf_u8 (g3 x hx).1, wf_u8 (g3 x hx).2⟩)
  have h5 : AllD I16 0 l5 := AllD.mem (fun x hx => wf_i16 (g5 x hx))
  have go := law_j0 h0 h1 h2 h3 (wf_u8 g4) h5
  have all : EvP (fun k => laws_FnAdvanceDelta.f k l0 l1 l2 l3 a4 l5) (fun r => r = true) := by
    unfold laws_FnAdvanceDelta.f
    refine EvP.bindP (fit28 l0) (fun t _ => ?_)
    cases t
    · exact EvP.neg (by decide) (go true)
    refine EvP.pos rfl (EvP.bindP (fit29 l1) (fun t _ => ?_))
    cases t
    · exact EvP.neg (by decide) (go true)
    refine EvP.pos rfl (EvP.bindP (fit30 l2) (fun t _ => ?_))
    cases t
    · exact EvP.neg (by decide) (go true)
    refine EvP.pos rfl ?_
    by_cases h : (l3.length : Int) > 2147483647
    · exact EvP.pos h (go true)
    · exact EvP.neg h (go _)
  obtain ⟨r, hr, rfl⟩ := all
  exact hr.rounds

end Go.Proofs.Ytlbmfnjhpojghaa.Pure
