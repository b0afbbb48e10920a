/- The law FnContours holds for every list of points: what the package draws of the contours that the law makes of them is, contour by contour, the reference's pieces, but for where a contour begins: each contour closed, and between two points of control a point of the outline, in their middle. Condition: none (the statement's own bounds on sizes lie in the law). -/
import Derived.Lib.IndexLaws
import Derived.Laws.BitsLemmas
import Derived.Laws.FloatArith
import Derived.Test.YtlbmfnjhpojghaaPFnContoursx11
namespace Go.Proofs.Ytlbmfnjhpojghaa.Flt
open Ieee
abbrev P2 (e : Int) : Rat := (2 : Rat) ^ e
theorem P2_pos (e : Int) : 0 < P2 e := Rat.zpow_pos (by decide)
theorem P2_add (a b : Int) : P2 (a + b) = P2 a * P2 b := Rat.zpow_add (by decide) a b
theorem P2_nat (n : Nat) : P2 (n : Int) = ((2 ^ n : Nat) : Rat) := by
  unfold P2
  rw [Rat.zpow_natCast]
  induction n with
  | zero => rfl
  | succ n ih => rw [Rat.pow_succ, ih, Nat.pow_succ, Rat.natCast_mul]; rfl
theorem P2_le {a b : Int} (h : a ≤ b) : P2 a ≤ P2 b := by
  obtain ⟨n, hn⟩ := Int.eq_ofNat_of_zero_le (show 0 ≤ b - a by omega)
  have e : b = a + (n : Int) := by omega
  rw [e, P2_add, P2_nat]
  have h1 : ((1 : Nat) : Rat) ≤ ((2 ^ n : Nat) : Rat) := Rat.natCast_le_natCast.2 (Nat.one_le_pow _ _ (by decide))
  have h2 := Rat.mul_le_mul_of_nonneg_left h1 (Rat.le_of_lt (P2_pos a))
  have h3 : P2 a * ((1 : Nat) : Rat) = P2 a := by show P2 a * 1 = P2 a; grind
  rw [h3] at h2
  exact h2
theorem P2_lt {a b : Int} (h : P2 a < P2 b) : a < b := by
  rcases Int.lt_or_le a b with h' | h'
  · exact h'
  · have := P2_le h'
    grind
theorem P2_half (a : Int) : P2 (a - 1) + P2 (a - 1) = P2 a := by
  have h := P2_add (a - 1) 1
  rw [show a - 1 + 1 = a by omega] at h
  have e : P2 1 = 2 := by decide +kernel
  rw [h, e]
  grind
theorem P2_inv (a : Int) : P2 a * P2 (-a) = 1 := by
  rw [← P2_add, show a + -a = 0 by omega]
  rfl
/-- A cut to the nearest is off by half a unit at the most. -/
theorem cut_near (neg : Bool) (n d : Nat) (hn : n ≠ 0) : 2 * (Toward.even.cut neg n d * 2 ^ d) ≤ 2 * n + 2 ^ d ∧ 2 * n ≤ 2 * (Toward.even.cut neg n d * 2 ^ d) + 2 ^ d ∧ (2 ^ d ∣ n → Toward.even.cut neg n d * 2 ^ d = n) ∧ (∀ c, n < 2 ^ d * c → Toward.even.cut neg n d ≤ c) := by
  have hlog : n < 2 ^ (n.log2 + 1) := Nat.lt_log2_self
  rcases Nat.lt_or_ge (n.log2 + 2) d with hd | hd
  · have hm : min d (n.log2 + 2) = n.log2 + 2 := Nat.min_eq_right (by omega)
    have hg : 2 * n < 2 ^ (n.log2 + 2) := by rw [Nat.pow_succ]; omega
    have hle : 2 ^ (n.log2 + 2) ≤ 2 ^ d := Nat.pow_le_pow_right (by decide) (by omega)
    have hc : Toward.even.cut neg n d = 0 := by
      unfold Toward.cut
      simp only [hm, Nat.shiftLeft_eq, Nat.one_mul]
      have e1 : n / 2 ^ (n.log2 + 2) = 0 := Nat.div_eq_of_lt (by omega)
      have e2 : n % 2 ^ (n.log2 + 2) = n := Nat.mod_eq_of_lt (by omega)
      rw [e1, e2, decide_eq_false (by omega), show (2 ^ (n.log2 + 2) == 2 * n) = false from beq_eq_false_iff_ne.2 (by omega)]
      rfl
    rw [hc]
    refine ⟨by omega, by omega, fun h => ?_, fun c _ => by omega⟩
    obtain ⟨q, hq⟩ := h
    have : q ≠ 0 := by rintro rfl; omega
    have : 2 ^ d * 1 ≤ 2 ^ d * q := Nat.mul_le_mul_left _ (by omega)
    omega
  · have hm : min d (n.log2 + 2) = d := Nat.min_eq_left (by omega)
    have hpos : 0 < 2 ^ d := Nat.two_pow_pos d
    have hdm := Nat.div_add_mod n (2 ^ d)
    have hlt := Nat.mod_lt n hpos
    unfold Toward.cut
    simp only [hm, Nat.shiftLeft_eq, Nat.one_mul]
    generalize n / 2 ^ d = low at *
    have hdvd : 2 ^ d ∣ n → n % 2 ^ d = 0 := Nat.mod_eq_zero_of_dvd
    generalize n % 2 ^ d = rest at *
    have hcap : ∀ c, n < 2 ^ d * c → low + 1 ≤ c := by
      intro c hc
      rcases Nat.lt_or_ge low c with h | h
      · omega
      · have := Nat.mul_le_mul_left (2 ^ d) h
        omega
    generalize 2 ^ d = G at *
    have hcm : low * G = G * low := Nat.mul_comm ..
    by_cases hmore : (decide (G < 2 * rest) || (G == 2 * rest && low % 2 == 1)) = true
    · rw [hmore]
      have h2 : G ≤ 2 * rest := by
        simp only [Bool.or_eq_true, decide_eq_true_eq, Bool.and_eq_true, beq_iff_eq] at hmore
        omega
      have e : (low + true.toNat) * G = G * low + G := by rw [show low + true.toNat = low + 1 from rfl, Nat.add_mul, hcm]; omega
      rw [e]
      refine ⟨by omega, by omega, fun h => ?_, fun c hc => ?_⟩
      · have := hdvd h; omega
      · have := hcap c hc
        show low + 1 ≤ c
        exact this
    · rw [Bool.not_eq_true] at hmore
      rw [hmore]
      have h2 : 2 * rest ≤ G := by
        simp only [Bool.or_eq_false_iff, decide_eq_false_iff_not] at hmore
        omega
      have e : (low + false.toNat) * G = G * low := by rw [show low + false.toNat = low from rfl, hcm]
      rw [e]
      refine ⟨by omega, by omega, fun h => ?_, fun c hc => ?_⟩
      · have := hdvd h; omega
      · have := hcap c hc
        show low ≤ c
        omega
/-- What a rung below infinity reads as. -/
theorem read_rung (f : Format) (neg : Bool) (rung : Nat) (h : rung < f.infRung) :
    ∃ m e, f.read (f.word neg rung) = .number neg m e ∧
      ((rung < f.binade ∧ m = rung ∧ e = f.leastPlace) ∨ (f.binade ≤ rung ∧ m = f.binade + rung % f.binade ∧ e = f.leastPlace + (rung / f.binade - 1 : Nat))) := by
  have hB : 0 < f.binade := Nat.two_pow_pos _
  have hS : f.infRung < f.signWeight := by
    unfold Format.infRung Format.signWeight
    rw [Nat.pow_add]
    have h1 : 2 ^ f.exponentBits - 1 < 2 ^ f.exponentBits := Nat.sub_lt (Nat.two_pow_pos _) (by decide)
    have := Nat.mul_lt_mul_of_pos_right h1 hB
    unfold Format.binade at this ⊢
    exact this
  have hneg : (f.word neg rung / f.signWeight % 2 == 1) = neg := by
    unfold Format.word
    cases neg with
    | false => simp [Nat.div_eq_of_lt (show rung < f.signWeight by omega)]
    | true =>
      have e : (f.signWeight + rung) / f.signWeight = 1 := by
        rw [Nat.add_comm, Nat.add_div_right _ (by omega), Nat.div_eq_of_lt (by omega)]
      simp [e]
  have hr : f.word neg rung % f.signWeight = rung := by
    unfold Format.word
    cases neg with
    | false => simp [Nat.mod_eq_of_lt (show rung < f.signWeight by omega)]
    | true => simp [Nat.mod_eq_of_lt (show rung < f.signWeight by omega)]
  unfold Format.read
  simp only [hneg, hr]
  by_cases h1 : rung < f.binade
  · rw [if_pos h1]
    exact ⟨_, _, rfl, Or.inl ⟨h1, rfl, rfl⟩⟩
  · rw [if_neg h1, if_pos h]
    exact ⟨_, _, rfl, Or.inr ⟨by omega, rfl, rfl⟩⟩

theorem lelt {a b c : Rat} (h : a ≤ b) (k : b < c) : a < c := by grind
/-- The signed value. -/
def sgn (neg : Bool) (x : Rat) : Rat := if neg then -x else x
/-- What half a unit in the last place is of a number, and of the least ones. -/
def UL : FloatKind → Rat
  | .f32 => P2 (-24)
  | .f64 => P2 (-53)
def EL (k : FloatKind) : Rat := P2 (k.format.leastPlace - 1)
theorem fb_is (k : FloatKind) : k.format.fractionBits = 23 ∧ k.format.leastPlace = -149 ∧ k.format.infRung = 255 * 2 ^ 23 ∧ UL k = P2 (-((k.format.fractionBits : Int) + 1)) ∨ k.format.fractionBits = 52 ∧ k.format.leastPlace = -1074 ∧ k.format.infRung = 2047 * 2 ^ 52 ∧ UL k = P2 (-((k.format.fractionBits : Int) + 1)) := by
  cases k
  · exact Or.inl ⟨rfl, rfl, rfl, rfl⟩
  · exact Or.inr ⟨rfl, rfl, rfl, rfl⟩
/-- A number that the kind has. -/
def Rep (k : FloatKind) (x : Rat) : Prop := ∃ (n : Nat) (p : Int), x = (n : Rat) * P2 p ∧ n < 2 ^ (k.format.fractionBits + 1) ∧ k.format.leastPlace ≤ p
theorem natCast_le {a b : Nat} (h : a ≤ b) : (a : Rat) ≤ (b : Rat) := Rat.natCast_le_natCast.2 h
theorem natCast_lt {a b : Nat} (h : a < b) : (a : Rat) < (b : Rat) := Rat.natCast_lt_natCast.2 h
theorem mul_mono {a b c : Rat} (h : a ≤ b) (hc : 0 ≤ c) : a * c ≤ b * c := Rat.mul_le_mul_of_nonneg_right h hc
theorem mag_low {mag : Nat} (h : mag ≠ 0) (place : Int) : P2 (place + mag.log2) ≤ (mag : Rat) * P2 place := by
  rw [P2_add, P2_nat, Rat.mul_comm]
  exact mul_mono (natCast_le (Nat.log2_self_le h)) (Rat.le_of_lt (P2_pos _))
theorem mag_high (mag : Nat) (place : Int) : (mag : Rat) * P2 place < P2 (place + mag.log2 + 1) := by
  rw [show place + (mag.log2 : Int) + 1 = place + ((mag.log2 + 1 : Nat) : Int) by omega, P2_add, P2_nat, Rat.mul_comm (P2 place)]
  exact Rat.mul_lt_mul_of_pos_right (natCast_lt Nat.lt_log2_self) (P2_pos _)

/-- ROUNDING: the word nearest to a number that is not too great reads as a number that is off by half a unit at the most; and just as that number, if the kind has it. -/
theorem nearest_val (k : FloatKind) (neg : Bool) (mag : Nat) (place : Int) (hx : (mag : Rat) * P2 place ≤ P2 60) :
    ∃ m e, k.decode (k.encode (.number neg mag place)) = .number neg m e ∧
      (m : Rat) * P2 e ≤ (mag : Rat) * P2 place + ((mag : Rat) * P2 place * UL k + EL k) ∧ (mag : Rat) * P2 place ≤ (m : Rat) * P2 e + ((mag : Rat) * P2 place * UL k + EL k) ∧
      (Rep k ((mag : Rat) * P2 place) → (m : Rat) * P2 e = (mag : Rat) * P2 place) := by
  have hf := fb_is k
  have hEL := P2_pos (k.format.leastPlace - 1)
  unfold FloatKind.decode FloatKind.encode Format.write Format.nearest EL
  simp only
  by_cases h0 : mag = 0
  · subst h0
    simp only [if_pos]
    obtain ⟨m, e, hr, hc⟩ := read_rung k.format neg 0 (by rcases hf with h | h <;> omega)
    refine ⟨m, e, hr, ?_⟩
    have hm : m = 0 := by
      rcases hc with ⟨_, h, _⟩ | ⟨h, _, _⟩
      · exact h
      · have : 0 < k.format.binade := Nat.two_pow_pos _
        omega
    subst hm
    have z : ((0 : Nat) : Rat) * P2 e = 0 := by show (0 : Rat) * _ = 0; grind
    have z' : ((0 : Nat) : Rat) * P2 place = 0 := by show (0 : Rat) * _ = 0; grind
    rw [z, z']
    refine ⟨by grind, by grind, fun _ => rfl⟩
  · rw [if_neg h0]
    have hlow := mag_low h0 place
    have hhigh := mag_high mag place
    generalize hL : mag.log2 = L at *
    have h60 : place + (L : Int) ≤ 60 := by
      have := P2_lt (a := place + L) (b := 61) (by have := P2_half 61; have := P2_pos (61 - 1); have : P2 (61 - 1) = P2 60 := rfl; grind)
      omega
    generalize hlast : max (place + (L : Int) - (k.format.fractionBits : Int)) k.format.leastPlace = last
    have hl1 : k.format.leastPlace ≤ last := by omega
    have hl2 : place + (L : Int) - (k.format.fractionBits : Int) ≤ last := by omega
    generalize hn : mag <<< (place - last).toNat = n
    generalize hd : (last - place).toNat = d
    rw [Nat.shiftLeft_eq] at hn
    have hn0 : n ≠ 0 := by
      rw [← hn]
      exact Nat.mul_ne_zero h0 (Nat.ne_of_gt (Nat.two_pow_pos _))
    obtain ⟨c1, c2, c3, c4⟩ := cut_near neg n d hn0
    generalize hr : Toward.even.cut neg n d = r at *
    -- the number in units
    have hxn : (mag : Rat) * P2 place = (n : Rat) * P2 (last - (d : Int)) := by
      rcases Int.lt_or_le place last with h | h
      · rw [show last - (d : Int) = place by omega, ← hn, show (place - last).toNat = 0 by omega, Nat.pow_zero, Nat.mul_one]
      · rw [show last - (d : Int) = last by omega, ← hn, Rat.natCast_mul, ← P2_nat, Rat.mul_assoc, ← P2_add, show (((place - last).toNat : Nat) : Int) + last = place by omega]
    have hpd : P2 (last - (d : Int)) * ((2 ^ d : Nat) : Rat) = P2 last := by
      rw [← P2_nat, ← P2_add, show last - (d : Int) + (d : Int) = last by omega]
    have hyr : (r : Rat) * P2 last = ((r * 2 ^ d : Nat) : Rat) * P2 (last - (d : Int)) := by
      rw [Rat.natCast_mul, ← hpd]
      grind
    -- few units
    have hfew : r ≤ 2 ^ (k.format.fractionBits + 1) := by
      refine c4 _ (Nat.lt_of_not_le fun hge => ?_)
      have q1 := mul_mono (natCast_le hge) (Rat.le_of_lt (P2_pos (last - (d : Int))))
      rw [← hxn, Rat.natCast_mul, ← P2_nat, ← P2_nat, Rat.mul_assoc, Rat.mul_comm, Rat.mul_assoc, ← P2_add, ← P2_add] at q1
      have q2 := P2_lt (lelt q1 hhigh)
      omega
    -- the rung
    have hBB : (2 : Nat) ^ (k.format.fractionBits + 1) = 2 * k.format.binade := by unfold Format.binade; rw [Nat.pow_succ]; omega
    have hinf : (last - k.format.leastPlace).toNat * k.format.binade + r < k.format.infRung := by
      rcases hf with ⟨f1, f2, f3, _⟩ | ⟨f1, f2, f3, _⟩
      · have : k.format.binade = 2 ^ 23 := by unfold Format.binade; rw [f1]
        rw [f3, this]
        rw [this] at hBB
        have : (last - k.format.leastPlace).toNat ≤ 187 := by omega
        have := Nat.mul_le_mul_right (2 ^ 23) this
        omega
      · have : k.format.binade = 2 ^ 52 := by unfold Format.binade; rw [f1]
        rw [f3, this]
        rw [this] at hBB
        have : (last - k.format.leastPlace).toNat ≤ 1083 := by omega
        have := Nat.mul_le_mul_right (2 ^ 52) this
        omega
    rw [Nat.min_eq_left (Nat.le_of_lt hinf)]
    obtain ⟨m, e, hread, hc⟩ := read_rung k.format neg _ hinf
    refine ⟨m, e, hread, ?_⟩
    have hB : 0 < k.format.binade := Nat.two_pow_pos _
    -- below a whole binade only at the least place
    have hbig : k.format.binade ≤ r ∨ last = k.format.leastPlace := by
      rcases Nat.lt_or_ge r k.format.binade with h | h
      · refine Or.inr ?_
        rcases Int.lt_or_le k.format.leastPlace last with h' | h'
        · exfalso
          have hlast' : last = place + (L : Int) - (k.format.fractionBits : Int) := by omega
          have hdvd : k.format.binade * 2 ^ d ≤ n := by
            refine Nat.le_of_not_lt fun hlt => ?_
            have q1 := Rat.mul_lt_mul_of_pos_right (natCast_lt hlt) (P2_pos (last - (d : Int)))
            rw [← hxn, Rat.natCast_mul, Rat.mul_assoc, Rat.mul_comm ((2 ^ d : Nat) : Rat), hpd] at q1
            unfold Format.binade at q1
            rw [← P2_nat, ← P2_add] at q1
            have q2 := P2_lt (lelt hlow q1)
            omega
          have h3 : r * 2 ^ d + 2 ^ d ≤ k.format.binade * 2 ^ d := by
            have := Nat.mul_le_mul_right (2 ^ d) (show r + 1 ≤ k.format.binade from h)
            rw [Nat.add_mul, Nat.one_mul] at this
            exact this
          have : 0 < 2 ^ d := Nat.two_pow_pos d
          omega
        · omega
      · exact Or.inl h
    have hval : (m : Rat) * P2 e = (r : Rat) * P2 last := by
      obtain ⟨t, ht⟩ : ∃ t : Nat, last = k.format.leastPlace + (t : Int) := ⟨(last - k.format.leastPlace).toNat, by omega⟩
      rw [show (last - k.format.leastPlace).toNat = t by omega] at hc hinf
      have hr2 : r ≤ 2 * k.format.binade := by omega
      rcases hc with ⟨h1, h2, h3⟩ | ⟨h1, h2, h3⟩
      · have ht0 : t = 0 := by
          rcases Nat.eq_zero_or_pos t with h | h
          · exact h
          · have := Nat.mul_le_mul_right k.format.binade h
            omega
        subst ht0
        rw [h2, h3, Nat.zero_mul, Nat.zero_add, ht]
        simp
      · rcases Nat.lt_or_ge r k.format.binade with hs | hs
        · have ht0 : t = 0 := by
            rcases hbig with h | h
            · omega
            · omega
          subst ht0
          omega
        · rcases Nat.lt_or_ge r (2 * k.format.binade) with hs2 | hs2
          · obtain ⟨q, hq⟩ : ∃ q, r = k.format.binade + q := ⟨r - k.format.binade, by omega⟩
            have hrr : t * k.format.binade + r = (t + 1) * k.format.binade + q := by rw [hq, Nat.add_mul]; omega
            have hqlt : q < k.format.binade := by omega
            have e1 : (t * k.format.binade + r) / k.format.binade = t + 1 := by
              rw [hrr, Nat.mul_comm, Nat.mul_add_div hB, Nat.div_eq_of_lt hqlt]
            have e2 : (t * k.format.binade + r) % k.format.binade = q := by
              rw [hrr, Nat.mul_comm, Nat.mul_add_mod, Nat.mod_eq_of_lt hqlt]
            rw [h2, h3, e1, e2, ← hq, ht]
            rfl
          · have hr3 : r = 2 * k.format.binade := by omega
            have hrr : t * k.format.binade + r = (t + 2) * k.format.binade := by rw [hr3, Nat.add_mul]
            have e1 : (t * k.format.binade + r) / k.format.binade = t + 2 := by rw [hrr, Nat.mul_div_cancel _ hB]
            have e2 : (t * k.format.binade + r) % k.format.binade = 0 := by rw [hrr, Nat.mul_mod_left]
            rw [h2, h3, e1, e2, ht, hr3, Nat.add_zero, show k.format.leastPlace + ((t + 2 - 1 : Nat) : Int) = k.format.leastPlace + (t : Int) + 1 by omega, P2_add _ 1, Rat.natCast_mul]
            have e3 : P2 1 = 2 := by decide +kernel
            rw [e3]
            show _ = (2 : Rat) * _ * _
            grind
    rw [hval]
    -- the error
    have hunit : P2 (last - 1) ≤ (mag : Rat) * P2 place * UL k + P2 (k.format.leastPlace - 1) := by
      have hU : UL k = P2 (-((k.format.fractionBits : Int) + 1)) := by rcases hf with h | h <;> exact h.2.2.2
      have hUp : 0 < UL k := by rw [hU]; exact P2_pos _
      have hx0 : 0 ≤ (mag : Rat) * P2 place := Rat.le_trans (Rat.le_of_lt (P2_pos _)) hlow
      have hxu : 0 ≤ (mag : Rat) * P2 place * UL k := Rat.mul_nonneg hx0 (Rat.le_of_lt hUp)
      rcases Int.lt_or_le k.format.leastPlace last with h' | h'
      · have hlast' : last - 1 = place + (L : Int) + -((k.format.fractionBits : Int) + 1) := by omega
        have q := mul_mono hlow (Rat.le_of_lt hUp)
        rw [hU] at q ⊢
        rw [← P2_add, ← hlast'] at q
        have := P2_pos (k.format.leastPlace - 1)
        grind
      · have : last = k.format.leastPlace := by omega
        rw [this]
        grind
    have hp := P2_pos (last - (d : Int))
    have hh : P2 (last - 1) + P2 (last - 1) = ((2 ^ d : Nat) : Rat) * P2 (last - (d : Int)) := by rw [P2_half, Rat.mul_comm, hpd]
    have b1 : (r : Rat) * P2 last ≤ (mag : Rat) * P2 place + P2 (last - 1) := by
      have q := mul_mono (natCast_le c1) (Rat.le_of_lt hp)
      rw [Rat.natCast_add, Rat.natCast_mul, Rat.natCast_mul 2 n] at q
      rw [hyr, hxn]
      have t2 : ((2 : Nat) : Rat) = 2 := rfl
      rw [t2] at q
      grind
    have b2 : (mag : Rat) * P2 place ≤ (r : Rat) * P2 last + P2 (last - 1) := by
      have q := mul_mono (natCast_le c2) (Rat.le_of_lt hp)
      rw [Rat.natCast_add, Rat.natCast_mul, Rat.natCast_mul 2 (r * 2 ^ d)] at q
      rw [hyr, hxn]
      have t2 : ((2 : Nat) : Rat) = 2 := rfl
      rw [t2] at q
      grind
    refine ⟨by grind, by grind, ?_⟩
    rintro ⟨a, p, ha, hb, hlp⟩
    have hple : last ≤ p := by
      have q1 : P2 (place + (L : Int)) < P2 (((k.format.fractionBits + 1 : Nat) : Int) + p) := by
        refine lelt hlow ?_
        rw [ha, P2_add, P2_nat]
        exact Rat.mul_lt_mul_of_pos_right (natCast_lt hb) (P2_pos _)
      have := P2_lt q1
      omega
    have hdv : 2 ^ d ∣ n := by
      rcases Int.lt_or_le place last with h | h
      · have hnm : n = mag := by rw [← hn, show (place - last).toNat = 0 by omega]; simp
        have hmul : (mag : Rat) = ((a * 2 ^ (p - place).toNat : Nat) : Rat) := by
          have e : P2 p = P2 (((p - place).toNat : Nat) : Int) * P2 place := by rw [← P2_add]; congr 1; omega
          rw [Rat.natCast_mul, ← P2_nat]
          rw [e, ← Rat.mul_assoc] at ha
          have hpp := P2_pos place
          have h1 : (mag : Rat) * P2 place / P2 place = (a : Rat) * P2 (((p - place).toNat : Nat) : Int) * P2 place / P2 place := by rw [ha]
          rw [Rat.mul_div_cancel (by grind), Rat.mul_div_cancel (by grind)] at h1
          exact h1
        have hmul' : mag = a * 2 ^ (p - place).toNat := Rat.natCast_inj.1 hmul
        rw [hnm, hmul']
        exact Nat.dvd_trans (Nat.pow_dvd_pow 2 (by omega)) (Nat.dvd_mul_left _ _)
      · rw [show d = 0 by omega]
        exact ⟨n, by simp⟩
    have := c3 hdv
    rw [hyr, this, ← hxn]

/-- The word is a finite number; its value. -/
def Fin (k : FloatKind) (b : Nat) (x : Rat) : Prop := ∃ s m e, k.decode b = .number s m e ∧ x = sgn s ((m : Rat) * P2 e)
/-- A number that the kind has, of either sign. -/
def RepS (k : FloatKind) (x : Rat) : Prop := Rep k x ∨ Rep k (-x)
theorem sgn_abs (s : Bool) (x : Rat) (h : 0 ≤ x) : sgn s x ≤ x ∧ -x ≤ sgn s x := by
  unfold sgn
  cases s
  · simp; grind
  · simp; grind
theorem val_nonneg (m : Nat) (e : Int) : 0 ≤ (m : Rat) * P2 e := Rat.mul_nonneg (Rat.natCast_nonneg) (Rat.le_of_lt (P2_pos e))
/-- x and z: near, by half a unit in the last place. -/
def Near (k : FloatKind) (z x : Rat) : Prop := (0 ≤ x → z ≤ x + (x * UL k + EL k) ∧ x ≤ z + (x * UL k + EL k) ∧ 0 ≤ z) ∧ (x ≤ 0 → z ≤ x + (-x * UL k + EL k) ∧ x ≤ z + (-x * UL k + EL k) ∧ z ≤ 0)
theorem rep_zero_pos (n : Nat) (p : Int) (x : Rat) (h : -x = (n : Rat) * P2 p) (hx : 0 ≤ x) : x = 0 := by
  have := val_nonneg n p
  grind
/-- What is written of a number: near it; just it, if the kind has it. -/
theorem encode_fin (k : FloatKind) (s : Bool) (mag : Nat) (place : Int) (x : Rat) (hx : x = sgn s ((mag : Rat) * P2 place)) (h1 : x ≤ P2 60) (h2 : -x ≤ P2 60) :
    ∃ z, Fin k (k.encode (.number s mag place)) z ∧ Near k z x ∧ (RepS k x → z = x) := by
  have hv := val_nonneg mag place
  have hle : (mag : Rat) * P2 place ≤ P2 60 := by
    unfold sgn at hx
    cases s
    · simp at hx; grind
    · simp at hx; grind
  obtain ⟨m, e, hd, a1, a2, a3⟩ := nearest_val k s mag place hle
  have hm := val_nonneg m e
  refine ⟨sgn s ((m : Rat) * P2 e), ⟨s, m, e, hd, rfl⟩, ?_, ?_⟩
  · subst hx
    unfold sgn Near
    have hE : 0 < EL k := P2_pos _
    have hU : 0 < UL k := by cases k <;> exact P2_pos _
    have hxu : 0 ≤ (mag : Rat) * P2 place * UL k := Rat.mul_nonneg hv (Rat.le_of_lt hU)
    have h00 : (mag : Rat) * P2 place ≤ 0 → (mag : Rat) * P2 place = 0 := fun h => by grind
    have hrep0 : (mag : Rat) * P2 place = 0 → (m : Rat) * P2 e = 0 := fun h => by
      have := a3 ⟨0, k.format.leastPlace, by rw [h]; show (0 : Rat) = 0 * _; grind, Nat.two_pow_pos _, Int.le_refl _⟩
      rw [this, h]
    cases s
    · simp
      refine ⟨fun _ => ⟨a1, a2, hm⟩, fun h => ?_⟩
      have z0 := h00 h
      have z1 := hrep0 z0
      rw [z0, z1]
      refine ⟨?_, ?_, by grind⟩ <;> grind
    · simp
      refine ⟨fun h => ?_, fun h => ?_⟩
      · have z0 : (mag : Rat) * P2 place = 0 := by grind
        have z1 := hrep0 z0
        rw [z0, z1]
        refine ⟨?_, ?_, by grind⟩ <;> grind
      · refine ⟨?_, ?_, by grind⟩ <;> grind
  · intro hr
    subst hx
    unfold sgn at hr ⊢
    have key : Rep k ((mag : Rat) * P2 place) := by
      cases s with
      | false =>
        simp at hr
        rcases hr with h | ⟨n, p, h, hn, hp⟩
        · exact h
        · have z := rep_zero_pos n p _ h hv
          exact ⟨0, k.format.leastPlace, by rw [z]; show (0 : Rat) = 0 * _; grind, Nat.two_pow_pos _, Int.le_refl _⟩
      | true =>
        simp at hr
        rcases hr with ⟨n, p, h, hn, hp⟩ | h
        · have z := rep_zero_pos n p _ h hv
          exact ⟨0, k.format.leastPlace, by rw [z]; show (0 : Rat) = 0 * _; grind, Nat.two_pow_pos _, Int.le_refl _⟩
        · rwa [Rat.neg_neg] at h
    rw [a3 key]
theorem signed_val (s : Bool) (m up : Nat) (base : Int) : ((Ieee.signed s m up : Int) : Rat) * P2 base = sgn s ((m : Rat) * P2 (base + (up : Int))) := by
  unfold Ieee.signed sgn
  rw [P2_add, P2_nat]
  cases s
  · simp only [Bool.false_eq_true, if_false]
    rw [Nat.shiftLeft_eq, Rat.intCast_natCast, Rat.natCast_mul]
    grind
  · simp only [if_true]
    rw [Nat.shiftLeft_eq, Rat.intCast_neg, Rat.intCast_natCast, Rat.natCast_mul]
    grind
/-- The sum of two numbers, as the machine has it ahead of rounding. -/
theorem sum_val {s t : Bool} {m n : Nat} {i j : Int} : ∃ u a p, Datum.sum (.number s m i) (.number t n j) = some (.number u a p) ∧ sgn u ((a : Rat) * P2 p) = sgn s ((m : Rat) * P2 i) + sgn t ((n : Rat) * P2 j) := by
  refine ⟨_, _, _, rfl, ?_⟩
  generalize hb : min i j = base
  have e1 := signed_val s m (i - base).toNat base
  have e2 := signed_val t n (j - base).toNat base
  rw [show base + (((i - base).toNat : Nat) : Int) = i by omega] at e1
  rw [show base + (((j - base).toNat : Nat) : Int) = j by omega] at e2
  rw [← e1, ← e2, ← Rat.add_mul, ← Rat.intCast_add]
  generalize Ieee.signed s m (i - base).toNat + Ieee.signed t n (j - base).toNat = T
  by_cases h0 : T = 0
  · subst h0
    simp only [if_true, Int.natAbs_zero]
    have z : ((0 : Nat) : Rat) * P2 base = 0 := by show (0 : Rat) * _ = 0; grind
    have z2 : ((0 : Int) : Rat) * P2 base = 0 := by show (0 : Rat) * _ = 0; grind
    rw [z, z2]
    unfold sgn
    split <;> grind
  · rw [if_neg h0]
    unfold sgn
    by_cases hn : T < 0
    · rw [decide_eq_true hn, if_pos rfl]
      have : (T.natAbs : Int) = -T := by omega
      have e : ((T.natAbs : Nat) : Rat) = -(T : Rat) := by rw [← Rat.intCast_neg, ← this]; rfl
      rw [e]
      grind
    · rw [decide_eq_false hn, if_neg (by decide)]
      have : (T.natAbs : Int) = T := by omega
      have e : ((T.natAbs : Nat) : Rat) = (T : Rat) := by rw [← Rat.intCast_natCast, this]
      rw [e]
theorem add_fin {k : FloatKind} {a b : Nat} {x y : Rat} (ha : Fin k a x) (hb : Fin k b y) (h1 : x + y ≤ P2 60) (h2 : -(x + y) ≤ P2 60) :
    ∃ r z, floatBits .add k a b = some r ∧ Fin k r z ∧ Near k z (x + y) ∧ (RepS k (x + y) → z = x + y) := by
  obtain ⟨s, m, i, hda, rfl⟩ := ha
  obtain ⟨t, n, j, hdb, rfl⟩ := hb
  obtain ⟨u, c, p, hs, hv⟩ := sum_val (s := s) (t := t) (m := m) (n := n) (i := i) (j := j)
  obtain ⟨z, hz, hn, hr⟩ := encode_fin k u c p _ hv.symm h1 h2
  refine ⟨_, z, ?_, hz, hn, hr⟩
  unfold FloatKind.decode at hda hdb
  simp only [floatBits, Format.add, hda, hdb, hs, Option.map_some]
  rfl
theorem sub_fin {k : FloatKind} {a b : Nat} {x y : Rat} (ha : Fin k a x) (hb : Fin k b y) (h1 : x - y ≤ P2 60) (h2 : -(x - y) ≤ P2 60) :
    ∃ r z, floatBits .sub k a b = some r ∧ Fin k r z ∧ Near k z (x - y) ∧ (RepS k (x - y) → z = x - y) := by
  obtain ⟨s, m, i, hda, rfl⟩ := ha
  obtain ⟨t, n, j, hdb, rfl⟩ := hb
  obtain ⟨u, c, p, hs, hv⟩ := sum_val (s := s) (t := !t) (m := m) (n := n) (i := i) (j := j)
  have e : sgn s ((m : Rat) * P2 i) + sgn (!t) ((n : Rat) * P2 j) = sgn s ((m : Rat) * P2 i) - sgn t ((n : Rat) * P2 j) := by
    unfold sgn
    cases t <;> simp <;> grind
  rw [e] at hv
  obtain ⟨z, hz, hn, hr⟩ := encode_fin k u c p _ hv.symm h1 h2
  refine ⟨_, z, ?_, hz, hn, hr⟩
  unfold FloatKind.decode at hda hdb
  simp only [floatBits, Format.sub, hda, hdb, Datum.opposite, hs, Option.map_some]
  rfl
theorem sgn_mul (s t : Bool) (x y : Rat) : sgn s x * sgn t y = sgn (s ^^ t) (x * y) := by
  unfold sgn
  cases s <;> cases t <;> simp <;> grind
theorem mul_fin {k : FloatKind} {a b : Nat} {x y : Rat} (ha : Fin k a x) (hb : Fin k b y) (h1 : x * y ≤ P2 60) (h2 : -(x * y) ≤ P2 60) :
    ∃ r z, floatBits .mul k a b = some r ∧ Fin k r z ∧ Near k z (x * y) ∧ (RepS k (x * y) → z = x * y) := by
  obtain ⟨s, m, i, hda, rfl⟩ := ha
  obtain ⟨t, n, j, hdb, rfl⟩ := hb
  have hv : sgn s ((m : Rat) * P2 i) * sgn t ((n : Rat) * P2 j) = sgn (s ^^ t) (((m * n : Nat) : Rat) * P2 (i + j)) := by
    rw [sgn_mul, Rat.natCast_mul, P2_add]
    congr 1
    grind
  obtain ⟨z, hz, hn, hr⟩ := encode_fin k (s ^^ t) (m * n) (i + j) _ hv h1 h2
  refine ⟨_, z, ?_, hz, hn, hr⟩
  unfold FloatKind.decode at hda hdb
  simp only [floatBits, Format.mul, hda, hdb, Datum.product, Option.map_some]
  rfl

/-- The quotient of two numbers, as the machine has it ahead of rounding: near enough. -/
theorem quo_val {digits : Nat} {s t : Bool} {m n : Nat} {i j : Int} (hn : n ≠ 0) : ∃ a p, Datum.quotient digits (.number s m i) (.number t n j) = some (.number (s ^^ t) a p) ∧
    (a : Rat) * P2 p * ((n : Rat) * P2 j) ≤ (m : Rat) * P2 i + (m : Rat) * P2 i * P2 (-(digits : Int)) ∧ (m : Rat) * P2 i ≤ (a : Rat) * P2 p * ((n : Rat) * P2 j) + (m : Rat) * P2 i * P2 (-(digits : Int)) ∧
    (∀ (c : Nat) (q : Int), (m : Rat) * P2 i = (c : Rat) * P2 q * ((n : Rat) * P2 j) → c < 2 ^ digits → (a : Rat) * P2 p * ((n : Rat) * P2 j) = (m : Rat) * P2 i) := by
  refine ⟨_, _, (if_neg hn).trans rfl, ?_⟩
  generalize hmore : digits + n.log2 - m.log2 = more
  rw [Nat.shiftLeft_eq]
  generalize hD : m * 2 ^ more = D
  have hdm := Nat.div_add_mod D n
  have hlt := Nat.mod_lt D (Nat.pos_of_ne_zero hn)
  have hdv : ∀ q', D = q' * n → D % n = 0 := fun q' h => by rw [h]; exact Nat.mul_mod_left ..
  have hqq : D / n = D / n := rfl
  generalize hqd : D / n = Q at *
  generalize hr : D % n = R at *
  have hJ := P2_pos j
  have hI := P2_pos i
  have hscale : (m : Rat) * P2 i = (D : Rat) * P2 (i - (more : Int)) := by
    rw [← hD, Rat.natCast_mul, ← P2_nat, Rat.mul_assoc, ← P2_add]
    congr 2
    omega
  -- a quotient's unit
  have hunit : ∀ a : Nat, (a : Rat) * P2 (i - j - (more : Int) - 1) * ((n : Rat) * P2 j) = ((a * n : Nat) : Rat) * P2 (i - (more : Int) - 1) := by
    intro a
    have e : P2 (i - (more : Int) - 1) = P2 (i - j - (more : Int) - 1) * P2 j := by rw [← P2_add]; congr 1; omega
    rw [e, Rat.natCast_mul]
    grind
  have hDn : D = n * Q + R := by omega
  have hhalf := P2_half (i - (more : Int))
  have hp := P2_pos (i - (more : Int) - 1)
  have hD2 : (D : Rat) * P2 (i - (more : Int)) = ((2 * D : Nat) : Rat) * P2 (i - (more : Int) - 1) := by
    rw [Rat.natCast_mul, ← hhalf]
    have t2 : ((2 : Nat) : Rat) = 2 := rfl
    rw [t2]
    grind
  rw [hunit, hscale, hD2]
  -- how great the whole quotient is
  have hslack : m ≠ 0 → n * 2 ^ digits ≤ 2 * D := by
    intro hm0
    have l1 := Nat.log2_self_le hm0
    have l2 : n < 2 ^ (n.log2 + 1) := Nat.lt_log2_self
    have h1 : n * 2 ^ digits ≤ 2 ^ (n.log2 + 1) * 2 ^ digits := Nat.mul_le_mul_right _ (Nat.le_of_lt l2)
    rw [← Nat.pow_add] at h1
    have h2 : 2 ^ m.log2 * 2 ^ more ≤ D := by rw [← hD]; exact Nat.mul_le_mul_right _ l1
    rw [← Nat.pow_add] at h2
    have h3 : 2 ^ (n.log2 + 1 + digits) ≤ 2 ^ (m.log2 + more + 1) := Nat.pow_le_pow_right (by decide) (by omega)
    have h4 : 2 ^ (m.log2 + more + 1) = 2 * 2 ^ (m.log2 + more) := by rw [Nat.pow_succ]; omega
    omega
  have hs : ((2 * D : Nat) : Rat) * P2 (i - (more : Int) - 1) * P2 (-(digits : Int)) ≥ (if m = 0 then 0 else (n : Rat) * P2 (i - (more : Int) - 1)) := by
    by_cases hm0 : m = 0
    · rw [if_pos hm0]
      exact Rat.mul_nonneg (Rat.mul_nonneg Rat.natCast_nonneg (Rat.le_of_lt hp)) (Rat.le_of_lt (P2_pos _))
    · rw [if_neg hm0]
      have q := natCast_le (hslack hm0)
      rw [Rat.natCast_mul n, ← P2_nat] at q
      have q2 := mul_mono (mul_mono q (Rat.le_of_lt hp)) (Rat.le_of_lt (P2_pos (-(digits : Int))))
      have inv := P2_inv (digits : Int)
      have e : (n : Rat) * P2 (digits : Int) * P2 (i - (more : Int) - 1) * P2 (-(digits : Int)) = (n : Rat) * P2 (i - (more : Int) - 1) * (P2 (digits : Int) * P2 (-(digits : Int))) := by grind
      rw [e, inv] at q2
      grind
  have hR0 : m = 0 → R = 0 := by
    intro h
    have : D = 0 := by rw [← hD, h]; simp
    exact hdv 0 (by omega)
  have hmul : (2 * Q + (R != 0).toNat) * n = 2 * (n * Q) + (if R = 0 then 0 else n) := by
    by_cases h : R = 0
    · rw [h, if_pos rfl]
      simp
      rw [Nat.mul_assoc, Nat.mul_comm Q n]
    · rw [if_neg h, show (R != 0) = true from bne_iff_ne.2 h, show true.toNat = 1 from rfl, Nat.add_mul, Nat.mul_assoc, Nat.mul_comm Q n, Nat.one_mul]
  have hnpos := natCast_lt (Nat.pos_of_ne_zero hn)
  have hnp : 0 ≤ (n : Rat) * P2 (i - (more : Int) - 1) := Rat.mul_nonneg Rat.natCast_nonneg (Rat.le_of_lt hp)
  refine ⟨?_, ?_, ?_⟩
  · rw [hmul]
    by_cases h : R = 0
    · rw [if_pos h]
      have q := mul_mono (natCast_le (show 2 * (n * Q) + 0 ≤ 2 * D by omega)) (Rat.le_of_lt hp)
      have hm : (0 : Rat) ≤ (if m = 0 then 0 else (n : Rat) * P2 (i - (more : Int) - 1)) := by split <;> grind
      grind
    · rw [if_neg h]
      have hm0 : m ≠ 0 := fun h' => h (hR0 h')
      rw [if_neg hm0] at hs
      have q := mul_mono (natCast_le (show 2 * (n * Q) + n ≤ 2 * D + n by omega)) (Rat.le_of_lt hp)
      rw [Rat.natCast_add (2 * D)] at q
      grind
  · rw [hmul]
    by_cases h : R = 0
    · rw [if_pos h]
      have q := mul_mono (natCast_le (show 2 * D ≤ 2 * (n * Q) + 0 by omega)) (Rat.le_of_lt hp)
      have hm : (0 : Rat) ≤ (if m = 0 then 0 else (n : Rat) * P2 (i - (more : Int) - 1)) := by split <;> grind
      grind
    · rw [if_neg h]
      have hm0 : m ≠ 0 := fun h' => h (hR0 h')
      rw [if_neg hm0] at hs
      have q := mul_mono (natCast_le (show 2 * D ≤ 2 * (n * Q) + n + n by omega)) (Rat.le_of_lt hp)
      rw [Rat.natCast_add (2 * (n * Q) + n)] at q
      grind
  · intro c q hc hcl
    rw [hmul]
    by_cases h : R = 0
    · rw [if_pos h, show 2 * (n * Q) + 0 = 2 * D by omega]
    · exfalso
      have hm0 : m ≠ 0 := fun h' => h (hR0 h')
      -- D / n = c * 2^(q - (i - j - more)), a whole number
      have hD3 : (D : Rat) * P2 (i - (more : Int)) = (c : Rat) * P2 q * ((n : Rat) * P2 j) := by rw [hD2]; exact hc
      have hpos2 := P2_pos (i - (more : Int))
      -- q + j ≥ i - more
      have hge : i - (more : Int) ≤ q + j := by
        rcases Int.lt_or_le (q + j) (i - (more : Int)) with h' | h'
        · exfalso
          have q1 := mul_mono (natCast_le (hslack hm0)) (Rat.le_of_lt hp)
          rw [← hD2, hD3, Rat.natCast_mul, ← P2_nat] at q1
          -- n * 2^digits * P2 (i-more-1) ≤ c * P2 q * n * P2 j = c * n * P2 (q + j)
          have e1 : (c : Rat) * P2 q * ((n : Rat) * P2 j) = (n : Rat) * ((c : Rat) * P2 (q + j)) := by rw [P2_add]; grind
          have e2 : (n : Rat) * P2 (digits : Int) * P2 (i - (more : Int) - 1) = (n : Rat) * P2 ((digits : Int) + (i - (more : Int) - 1)) := by rw [P2_add]; grind
          rw [e1, e2] at q1
          have q2 := Rat.le_of_mul_le_mul_left q1 hnpos
          have q3 : (c : Rat) * P2 (q + j) < P2 ((digits : Int) + (q + j)) := by
            rw [P2_add (digits : Int), P2_nat]
            exact Rat.mul_lt_mul_of_pos_right (natCast_lt hcl) (P2_pos _)
          have q4 := P2_lt (lelt q2 q3)
          omega
        · exact h'
      obtain ⟨u, hu⟩ := Int.eq_ofNat_of_zero_le (show 0 ≤ q + j - (i - (more : Int)) by omega)
      have e3 : (c : Rat) * P2 q * ((n : Rat) * P2 j) = ((c * 2 ^ u * n : Nat) : Rat) * P2 (i - (more : Int)) := by
        rw [Rat.natCast_mul, Rat.natCast_mul, ← P2_nat]
        have : P2 q * P2 j = P2 (u : Int) * P2 (i - (more : Int)) := by rw [← P2_add, ← P2_add]; congr 1; omega
        grind
      rw [e3] at hD3
      have e4 : (D : Rat) = ((c * 2 ^ u * n : Nat) : Rat) := by
        have h1 : (D : Rat) * P2 (i - (more : Int)) / P2 (i - (more : Int)) = ((c * 2 ^ u * n : Nat) : Rat) * P2 (i - (more : Int)) / P2 (i - (more : Int)) := by rw [hD3]
        rw [Rat.mul_div_cancel (by grind), Rat.mul_div_cancel (by grind)] at h1
        exact h1
      exact h (hdv _ (Rat.natCast_inj.1 e4))
/-- How near a quotient is: a little more than half a unit. -/
def UD (k : FloatKind) : Rat := UL k + UL k
def NearQ (k : FloatKind) (z x : Rat) : Prop := (0 ≤ x → z ≤ x + (x * UD k + (EL k + EL k)) ∧ x ≤ z + (x * UD k + (EL k + EL k)) ∧ 0 ≤ z) ∧ (x ≤ 0 → z ≤ x + (-x * UD k + (EL k + EL k)) ∧ x ≤ z + (-x * UD k + (EL k + EL k)) ∧ z ≤ 0)

theorem UL_small (k : FloatKind) : 0 < UL k ∧ UL k ≤ 1 / 16777216 := by
  cases k
  · exact ⟨P2_pos _, by decide +kernel⟩
  · exact ⟨P2_pos _, by decide +kernel⟩
theorem EL_small (k : FloatKind) : 0 < EL k ∧ EL k ≤ P2 (-150) := by
  cases k
  · exact ⟨P2_pos _, Rat.le_refl⟩
  · exact ⟨P2_pos _, P2_le (by decide)⟩
theorem div_le_of {a b c : Rat} (hc : 0 < c) (h : a ≤ b * c) : a / c ≤ b := by
  have : a / c * c ≤ b * c := by rw [Rat.div_mul_cancel (by grind)]; exact h
  exact Rat.le_of_mul_le_mul_right this hc
theorem le_div_of {a b c : Rat} (hc : 0 < c) (h : a * c ≤ b) : a ≤ b / c := by
  have : a * c ≤ b / c * c := by rw [Rat.div_mul_cancel (by grind)]; exact h
  exact Rat.le_of_mul_le_mul_right this hc
theorem sgn_div (s t : Bool) (x y : Rat) : sgn s x / sgn t y = sgn (s ^^ t) (x / y) := by
  unfold sgn
  cases s <;> cases t <;> simp <;> grind
theorem P2_half' (a : Int) : P2 (a - 1) = P2 a / 2 := by have := P2_half a; grind
theorem div_fin {k : FloatKind} {a b : Nat} {x y : Rat} (ha : Fin k a x) (hb : Fin k b y) (hy : y ≠ 0) (h1 : x / y ≤ P2 59) (h2 : -(x / y) ≤ P2 59) :
    ∃ r z, floatBits .quo k a b = some r ∧ Fin k r z ∧ NearQ k z (x / y) ∧ (RepS k (x / y) → z = x / y) := by
  obtain ⟨s, m, i, hda, rfl⟩ := ha
  obtain ⟨t, n, j, hdb, rfl⟩ := hb
  have hn : n ≠ 0 := by
    rintro rfl
    apply hy
    have : ((0 : Nat) : Rat) * P2 j = 0 := by show (0 : Rat) * _ = 0; grind
    unfold sgn
    split <;> rw [this] <;> grind
  have hX := val_nonneg m i
  have hY : 0 < (n : Rat) * P2 j := Rat.mul_pos (natCast_lt (Nat.pos_of_ne_zero hn)) (P2_pos j)
  obtain ⟨c, p, hq, q1, q2, q3⟩ := quo_val (digits := k.format.fractionBits + 2) (s := s) (t := t) (m := m) (n := n) (i := i) (j := j) hn
  have hxy := sgn_div s t ((m : Rat) * P2 i) ((n : Rat) * P2 j)
  have hQ := val_nonneg c p
  have hdl : P2 (-((k.format.fractionBits + 2 : Nat) : Int)) = UL k / 2 := by
    have hf := fb_is k
    have hU : UL k = P2 (-((k.format.fractionBits : Int) + 1)) := by rcases hf with h | h <;> exact h.2.2.2
    rw [hU, ← P2_half']
    congr 1
  rw [hdl] at q1 q2
  rw [hxy] at h1 h2 ⊢
  have hRY : (m : Rat) * P2 i / ((n : Rat) * P2 j) * ((n : Rat) * P2 j) = (m : Rat) * P2 i := Rat.div_mul_cancel (by grind)
  have hRx : ∀ cc q, (m : Rat) * P2 i / ((n : Rat) * P2 j) = cc * P2 q → (m : Rat) * P2 i = cc * P2 q * ((n : Rat) * P2 j) := fun cc q h => by rw [← h, hRY]
  have hR : 0 ≤ (m : Rat) * P2 i / ((n : Rat) * P2 j) := le_div_of hY (by grind)
  have hQx : (c : Rat) * P2 p * ((n : Rat) * P2 j) = (m : Rat) * P2 i → (c : Rat) * P2 p = (m : Rat) * P2 i / ((n : Rat) * P2 j) := fun h => by
    rw [← h, Rat.mul_div_cancel (by grind)]
  generalize (m : Rat) * P2 i / ((n : Rat) * P2 j) = R at *
  generalize (m : Rat) * P2 i = X at *
  generalize (n : Rat) * P2 j = Y at *
  have hUs := UL_small k
  have hEs := EL_small k
  have hRU : 0 ≤ R * UL k := Rat.mul_nonneg hR (Rat.le_of_lt hUs.1)
  -- the whole quotient against R
  have r1 : (c : Rat) * P2 p ≤ R + R * (UL k / 2) := by
    refine Rat.le_of_mul_le_mul_right (c := Y) ?_ hY
    have e : (R + R * (UL k / 2)) * Y = R * Y + R * Y * (UL k / 2) := by grind
    rw [e, hRY]
    exact q1
  have r2 : R ≤ (c : Rat) * P2 p + R * (UL k / 2) := by
    refine Rat.le_of_mul_le_mul_right (c := Y) ?_ hY
    have e : ((c : Rat) * P2 p + R * (UL k / 2)) * Y = (c : Rat) * P2 p * Y + R * Y * (UL k / 2) := by grind
    rw [e, hRY]
    exact q2
  have hR59 : R ≤ P2 59 := by
    unfold sgn at h1 h2
    split at h1
    · rename_i hs
      rw [if_pos hs] at h2
      grind
    · exact h1
  have h6059 := P2_half 60
  have e59 : P2 (60 - 1) = P2 59 := rfl
  have hQ60 : (c : Rat) * P2 p ≤ P2 60 := by
    have : R * UL k ≤ R * 1 := Rat.mul_le_mul_of_nonneg_left (by grind) hR
    grind
  have hqv : sgn (s ^^ t) ((c : Rat) * P2 p) = sgn (s ^^ t) ((c : Rat) * P2 p) := rfl
  obtain ⟨z, hz, hnear, hrep⟩ := encode_fin k (s ^^ t) c p _ hqv (by have := (sgn_abs (s ^^ t) _ hQ).1; grind) (by have := (sgn_abs (s ^^ t) _ hQ).2; grind)
  refine ⟨_, z, ?_, hz, ?_, ?_⟩
  · unfold FloatKind.decode at hda hdb
    simp only [floatBits, Format.div, hda, hdb, hq, Option.map_some]
    rfl
  · have hQU : (c : Rat) * P2 p * UL k ≤ R * UL k + R * (UL k / 2) * UL k := by
      have := mul_mono r1 (Rat.le_of_lt hUs.1)
      grind
    have hUU : R * (UL k / 2) * UL k ≤ R * UL k * (1 / 4) := by
      have e : R * (UL k / 2) * UL k = R * UL k * (UL k / 2) := by grind
      rw [e]
      exact Rat.mul_le_mul_of_nonneg_left (by grind) hRU
    unfold NearQ UD
    unfold Near sgn at hnear
    unfold sgn
    cases hst : (s ^^ t) with
    | false =>
      rw [hst] at hnear
      simp only [Bool.false_eq_true, if_false] at hnear ⊢
      refine ⟨fun h => ?_, fun h => ?_⟩
      · have := hnear.1 hQ
        grind
      · have z0 : R = 0 := by grind
        have z1 : (c : Rat) * P2 p = 0 := by rw [z0] at r1; grind
        have := hnear.2 (by grind)
        rw [z1] at this
        rw [z0]
        grind
    | true =>
      rw [hst] at hnear
      simp only [if_true] at hnear ⊢
      refine ⟨fun h => ?_, fun h => ?_⟩
      · have z0 : R = 0 := by grind
        have z1 : (c : Rat) * P2 p = 0 := by rw [z0] at r1; grind
        have := hnear.1 (by grind)
        rw [z1] at this
        rw [z0]
        grind
      · have := hnear.2 (by grind)
        grind
  · intro hr
    have hex : (c : Rat) * P2 p = R := by
      have main : ∀ (cc : Nat) (q : Int), R = (cc : Rat) * P2 q → cc < 2 ^ (k.format.fractionBits + 1) → (c : Rat) * P2 p = R := by
        intro cc q h hlt
        exact hQx (q3 cc q (hRx _ q h) (Nat.lt_of_lt_of_le hlt (Nat.pow_le_pow_right (by decide) (by omega))))
      have zero : R = 0 → (c : Rat) * P2 p = R := fun h => main 0 0 (by rw [h]; show (0 : Rat) = 0 * _; grind) (Nat.two_pow_pos _)
      unfold sgn at hr
      split at hr
      · rcases hr with ⟨cc, q, h, hl, _⟩ | ⟨cc, q, h, hl, _⟩
        · exact zero (by have := val_nonneg cc q; grind)
        · exact main cc q (by grind) hl
      · rcases hr with ⟨cc, q, h, hl, _⟩ | ⟨cc, q, h, hl, _⟩
        · exact main cc q h hl
        · exact zero (by have := val_nonneg cc q; grind)
    rw [hex] at hrep
    exact hrep hr
/-- A word that reads as a number has that number. -/
theorem fin_rep {k : FloatKind} {b : Nat} {x : Rat} (h : Fin k b x) : RepS k x := by
  obtain ⟨s, m, e, hd, rfl⟩ := h
  have key : m < 2 ^ (k.format.fractionBits + 1) ∧ k.format.leastPlace ≤ e := by
    unfold FloatKind.decode Format.read at hd
    simp only at hd
    have hB : (2 : Nat) ^ (k.format.fractionBits + 1) = 2 * k.format.binade := by unfold Format.binade; rw [Nat.pow_succ]; omega
    have hpos : 0 < k.format.binade := Nat.two_pow_pos _
    split at hd
    · injection hd with h1 h2 h3
      omega
    · split at hd
      · injection hd with h1 h2 h3
        have := Nat.mod_lt (b % k.format.signWeight) hpos
        omega
      · split at hd <;> cases hd
  unfold sgn
  cases s with
  | false => exact Or.inl ⟨m, e, rfl, key.1, key.2⟩
  | true => exact Or.inr ⟨m, e, by simp [Rat.neg_neg], key.1, key.2⟩
theorem rep_int (k : FloatKind) (n : Int) (h : n.natAbs < 2 ^ (k.format.fractionBits + 1)) : RepS k (n : Rat) := by
  have hlp : k.format.leastPlace ≤ 0 := by rcases fb_is k with h | h <;> omega
  rcases Int.lt_or_le n 0 with h0 | h0
  · refine Or.inr ⟨n.natAbs, 0, ?_, h, hlp⟩
    rw [← Rat.intCast_neg, ← show ((n.natAbs : Nat) : Int) = -n by omega, Rat.intCast_natCast]
    show _ = _ * (1 : Rat)
    grind
  · refine Or.inl ⟨n.natAbs, 0, ?_, h, hlp⟩
    rw [← Rat.intCast_natCast, show ((n.natAbs : Nat) : Int) = n by omega]
    show _ = _ * (1 : Rat)
    grind
theorem int_abs {n : Int} {c : Nat} (h : n.natAbs ≤ c) : (n : Rat) ≤ (c : Rat) ∧ -(n : Rat) ≤ (c : Rat) := by
  rw [← Rat.intCast_neg, ← Rat.intCast_natCast]
  exact ⟨Rat.intCast_le_intCast.2 (by omega), Rat.intCast_le_intCast.2 (by omega)⟩
/-- A whole number made a float: just it, if it is not too great. -/
theorem ofInt_fin (k : FloatKind) (n : Int) (h : n.natAbs ≤ 16777216) : Fin k (floatOfInt k n) (n : Rat) := by
  have hb : n.natAbs < 2 ^ (k.format.fractionBits + 1) ∨ n.natAbs = 16777216 := by
    rcases fb_is k with ⟨h', _⟩ | ⟨h', _⟩
    · rw [h']; omega
    · rw [h']; exact Or.inl (Nat.lt_of_le_of_lt h (by decide))
  have hc := int_abs h
  have h60 : ((16777216 : Nat) : Rat) ≤ P2 60 := by decide +kernel
  obtain ⟨z, hz, _, hr⟩ := encode_fin k (n < 0) n.natAbs 0 (n : Rat) (by
    unfold sgn
    have e1 : P2 0 = 1 := rfl
    rw [e1]
    by_cases h0 : n < 0
    · rw [decide_eq_true h0, if_pos rfl, ← Rat.intCast_natCast, show ((n.natAbs : Nat) : Int) = -n by omega, Rat.intCast_neg]
      grind
    · rw [decide_eq_false h0, if_neg (by decide), ← Rat.intCast_natCast, show ((n.natAbs : Nat) : Int) = n by omega]
      grind) (by grind) (by grind)
  have hrep : RepS k (n : Rat) := by
    rcases hb with h' | h'
    · exact rep_int k n h'
    · have hlp : k.format.leastPlace ≤ 24 := by rcases fb_is k with h | h <;> omega
      have e24 : P2 24 = ((16777216 : Nat) : Rat) := by decide +kernel
      have one : 1 < 2 ^ (k.format.fractionBits + 1) := Nat.one_lt_two_pow (by omega)
      rcases Int.lt_or_le n 0 with h0 | h0
      · refine Or.inr ⟨1, 24, ?_, one, hlp⟩
        rw [e24, ← Rat.intCast_neg, ← h', ← show ((n.natAbs : Nat) : Int) = -n by omega, Rat.intCast_natCast]
        show _ = (1 : Rat) * _
        grind
      · refine Or.inl ⟨1, 24, ?_, one, hlp⟩
        have e5 : ((n.natAbs : Nat) : Rat) = (n : Rat) := by rw [← Rat.intCast_natCast, show ((n.natAbs : Nat) : Int) = n by omega]
        rw [e24, ← h', e5]
        show _ = (1 : Rat) * _
        grind
  rw [hr hrep] at hz
  exact hz
theorem word_val (s : Bool) (m : Nat) (e : Int) (base : Int) (h : base ≤ e) : ((Ieee.signed s m (e - base).toNat : Int) : Rat) * P2 base = sgn s ((m : Rat) * P2 e) := by
  have := signed_val s m (e - base).toNat base
  rwa [show base + (((e - base).toNat : Nat) : Int) = e by omega] at this
theorem order_fin {k : FloatKind} {a b : Nat} {x y : Rat} (ha : Fin k a x) (hb : Fin k b y) : (k.format.order a b == some .lt) = decide (x < y) ∧ (k.format.order a b == some .eq) = decide (x = y) ∧ (k.format.order a b == some .gt) = decide (y < x) ∧ (k.format.order a b != some .eq) = !decide (x = y) := by
  obtain ⟨s, m, i, hda, rfl⟩ := ha
  obtain ⟨t, n, j, hdb, rfl⟩ := hb
  have e1 := word_val s m i (min i j) (Int.min_le_left ..)
  have e2 := word_val t n j (min i j) (Int.min_le_right ..)
  unfold FloatKind.decode at hda hdb
  have ho : k.format.order a b = some (compare (Ieee.signed s m (i - min i j).toNat) (Ieee.signed t n (j - min i j).toNat)) := by
    unfold Format.order
    rw [hda, hdb]
    rfl
  rw [ho, ← e1, ← e2]
  generalize Ieee.signed s m (i - min i j).toNat = A
  generalize Ieee.signed t n (j - min i j).toNat = B
  have hp := P2_pos (min i j)
  generalize P2 (min i j) = p at *
  have lt_iff : ∀ C D : Int, ((C : Rat) * p < (D : Rat) * p) ↔ C < D := by
    intro C D
    constructor
    · intro h
      rcases Int.lt_or_le C D with h' | h'
      · exact h'
      · have := mul_mono (Rat.intCast_le_intCast.2 h') (Rat.le_of_lt hp)
        grind
    · intro h
      exact Rat.mul_lt_mul_of_pos_right (Rat.intCast_lt_intCast.2 h) hp
  rcases Int.lt_trichotomy A B with h | h | h
  · have h1 := (lt_iff A B).2 h
    have hc : compare A B = .lt := by simp [compare, compareOfLessAndEq, h]
    rw [hc, decide_eq_true h1, decide_eq_false (show ¬ (A : Rat) * p = (B : Rat) * p by grind), decide_eq_false (show ¬ (B : Rat) * p < (A : Rat) * p by grind)]
    exact ⟨rfl, rfl, rfl, rfl⟩
  · subst h
    have hc : compare A A = .eq := by simp [compare, compareOfLessAndEq]
    rw [hc, decide_eq_false (show ¬ (A : Rat) * p < (A : Rat) * p by grind), decide_eq_true rfl]
    exact ⟨rfl, rfl, rfl, rfl⟩
  · have h1 := (lt_iff B A).2 h
    have hc : compare A B = .gt := by simp [compare, compareOfLessAndEq, Int.not_lt.2 (Int.le_of_lt h), show ¬ A = B by omega]
    rw [hc, decide_eq_false (show ¬ (A : Rat) * p < (B : Rat) * p by grind), decide_eq_false (show ¬ (A : Rat) * p = (B : Rat) * p by grind), decide_eq_true h1]
    exact ⟨rfl, rfl, rfl, rfl⟩
/-- float64 of a float32: the same number. -/
theorem widen_fin {b : Nat} {x : Rat} (h : Fin .f32 b x) (h1 : x ≤ P2 60) (h2 : -x ≤ P2 60) : ∃ r, floatToFloatBits .f32 b .f64 = some r ∧ Fin .f64 r x := by
  have hr := fin_rep h
  obtain ⟨s, m, e, hd, rfl⟩ := h
  obtain ⟨z, hz, _, hrep⟩ := encode_fin .f64 s m e _ rfl h1 h2
  have h64 : RepS .f64 (sgn s ((m : Rat) * P2 e)) := by
    have up : ∀ y, Rep .f32 y → Rep .f64 y := by
      rintro y ⟨n, p, hy, hn, hp⟩
      exact ⟨n, p, hy, Nat.lt_of_lt_of_le hn (by decide), Int.le_trans (by decide) hp⟩
    rcases hr with h | h
    · exact Or.inl (up _ h)
    · exact Or.inr (up _ h)
  rw [hrep h64] at hz
  refine ⟨FloatKind.f64.encode (.number s m e), ?_, hz⟩
  unfold floatToFloatBits
  rw [if_neg (by decide), hd]
  simp only
  obtain ⟨s', m', e', hd', _⟩ := hz
  rw [hd']
  simp [Datum.isInfinity]

end Go.Proofs.Ytlbmfnjhpojghaa.Flt
namespace Go.Proofs.Ytlbmfnjhpojghaa.Pure
open Ieee Go.RowKit Go.Proofs.Ytlbmfnjhpojghaa.Flt Go.Proofs.Ytlbmfnjhpojghaa.PFnContours Go.Proofs.YtlbmfnjhpojghaaW Go.Proofs.YtlbmfnjhpojghaaW.PrintWords Go.Proofs.YtlbmfnjhpojghaaW.PrintLast Go.Proofs.YtlbmfnjhpojghaaW.PrintMore
/-- It ends, and its answer is as said. -/
def EvP {α : Type} (g : Nat → Option α) (Q : α → Prop) : Prop := ∃ r, Ev g r ∧ Q r
theorem EvP.now {α : Type} {Q : α → Prop} (r : α) (h : Q r) : EvP (fun _ => some r) Q := ⟨r, Ev.now r, h⟩
theorem EvP.step {α : Type} {g f : Nat → Option α} {Q : α → Prop} (h : ∀ k, g (k + 1) = f k) (k : EvP f Q) : EvP g Q := by
  obtain ⟨r, hr, hq⟩ := k
  exact ⟨r, Ev.step h hr, hq⟩
theorem EvP.congr {α : Type} {g f : Nat → Option α} {Q : α → Prop} (h : ∀ k, g k = f k) (k : EvP f Q) : EvP g Q := by
  obtain ⟨r, hr, hq⟩ := k
  exact ⟨r, Ev.congr h hr, hq⟩
theorem EvP.pos {α : Type} {c : Prop} [Decidable c] {g f : Nat → Option α} {Q : α → Prop} (hc : c) (h : EvP g Q) : EvP (fun k => if c then g k else f k) Q := EvP.congr (fun _ => if_pos hc) h
theorem EvP.neg {α : Type} {c : Prop} [Decidable c] {g f : Nat → Option α} {Q : α → Prop} (hc : ¬ c) (h : EvP f Q) : EvP (fun k => if c then g k else f k) Q := EvP.congr (fun _ => if_neg hc) h
theorem EvP.bind {α β : Type} {g : Nat → Option α} {f : Nat → α → Option β} {a : α} {Q : β → Prop} (h : Ev g a) (k : EvP (fun n => f n a) Q) : EvP (fun n => (g n).bind (f n)) Q := by
  obtain ⟨r, hr, hq⟩ := k
  exact ⟨r, Ev.bind h hr, hq⟩
theorem EvP.bindP {α β : Type} {g : Nat → Option α} {f : Nat → α → Option β} {P : α → Prop} {Q : β → Prop} (h : EvP g P) (k : ∀ a, P a → EvP (fun n => f n a) Q) : EvP (fun n => (g n).bind (f n)) Q := by
  obtain ⟨a, ha, hp⟩ := h
  exact EvP.bind ha (k a hp)
theorem EvP.mono {α : Type} {g : Nat → Option α} {P Q : α → Prop} (h : EvP g P) (k : ∀ a, P a → Q a) : EvP g Q := by
  obtain ⟨a, ha, hp⟩ := h
  exact ⟨a, ha, k a hp⟩
theorem Ev.const {α : Type} {a : Option α} {r : α} (h : a = some r) : Ev (fun _ => a) r := ⟨0, fun _ _ => h⟩

/-! ### points, words, the point between two -/
abbrev Pt := Nat × Nat
def fw (n : Int) : Nat := floatOfInt .f32 n
def ptOf (s : S65) : Pt := (fw s.f1, fw s.f2)
def md (a b : Nat) : Nat := fv .quo .f32 (fv .add .f32 a b) 1073741824
def mid (p q : Pt) : Pt := (md p.1 q.1, md p.2 q.2)
/-- A word of a whole number that is not great; a word of a number. -/
def Bw (w : Nat) : Prop := ∃ n : Int, n.natAbs ≤ 8192 ∧ w = fw n
def Gw (w : Nat) : Prop := ∃ x, Fin .f32 w x
def Bp (p : Pt) : Prop := Bw p.1 ∧ Bw p.2
def Gp (p : Pt) : Prop := Gw p.1 ∧ Gw p.2
theorem fv_of {op : BinOp} {k : FloatKind} {x y r : Nat} (h : floatBits op k x y = some r) : fok op k x y = true ∧ fv op k x y = r := by
  unfold fok fv
  rw [h]
  exact ⟨rfl, rfl⟩
theorem Bw.fin {w : Nat} (h : Bw w) : ∃ n : Int, n.natAbs ≤ 8192 ∧ Fin .f32 w (n : Rat) := by
  obtain ⟨n, hn, rfl⟩ := h
  exact ⟨n, hn, ofInt_fin .f32 n (by omega)⟩
theorem Bw.good {w : Nat} (h : Bw w) : Gw w := by
  obtain ⟨n, _, hf⟩ := h.fin
  exact ⟨_, hf⟩
theorem Bp.good {p : Pt} (h : Bp p) : Gp p := ⟨h.1.good, h.2.good⟩
theorem sum_comm (a b : Datum) : Datum.sum a b = Datum.sum b a := by
  cases a <;> cases b <;> simp only [Datum.sum]
  · rename_i s m i t n j
    rw [Int.min_comm i j, Int.add_comm, Bool.and_comm]
  · rename_i s t
    by_cases h : s = t
    · subst h; rfl
    · rw [if_neg h, if_neg (Ne.symm h)]
theorem fb_comm (a b : Nat) : floatBits .add .f32 a b = floatBits .add .f32 b a := by
  simp only [floatBits, Format.add]
  rw [sum_comm]
theorem md_comm (a b : Nat) : md a b = md b a := by
  unfold md fv
  rw [fb_comm]
theorem mid_comm (p q : Pt) : mid p q = mid q p := by
  unfold mid
  rw [md_comm p.1, md_comm p.2]
theorem two32 : Fin .f32 1073741824 2 := ⟨false, 8388608, -22, by decide, by unfold sgn; decide +kernel⟩
theorem md_ok {a b : Nat} (ha : Bw a) (hb : Bw b) : fok .add .f32 a b = true ∧ fok .quo .f32 (fv .add .f32 a b) 1073741824 = true ∧ Gw (md a b) := by
  obtain ⟨n, hn, fa⟩ := ha.fin
  obtain ⟨m, hm, fb⟩ := hb.fin
  have hs : (n : Rat) + (m : Rat) = ((n + m : Int) : Rat) := (Rat.intCast_add ..).symm
  have hb1 := int_abs (n := n + m) (c := 16384) (by omega)
  have h60 : ((16384 : Nat) : Rat) ≤ P2 60 := by decide +kernel
  have h59 : ((16384 : Nat) : Rat) ≤ P2 59 * 2 := by decide +kernel
  obtain ⟨r, z, h1, h2, _, h4⟩ := add_fin fa fb (by rw [hs]; exact Rat.le_trans hb1.1 h60) (by rw [hs]; exact Rat.le_trans hb1.2 h60)
  have hz : z = ((n + m : Int) : Rat) := by
    rw [← hs]
    refine h4 ?_
    rw [hs]
    exact rep_int .f32 (n + m) (Nat.lt_of_le_of_lt (show (n + m).natAbs ≤ 16384 by omega) (by decide))
  subst hz
  have hneg : -(((n + m : Int) : Rat) / 2) = (-((n + m : Int) : Rat)) / 2 := by grind
  obtain ⟨r2, z2, g1, g2, _⟩ := div_fin h2 two32 (by grind) (div_le_of (by grind) (Rat.le_trans hb1.1 h59)) (by rw [hneg]; exact div_le_of (by grind) (Rat.le_trans hb1.2 h59))
  obtain ⟨e1, e2⟩ := fv_of h1
  obtain ⟨e3, e4⟩ := fv_of g1
  refine ⟨e1, by rw [e2]; exact e3, ?_⟩
  unfold md
  rw [e2, e4]
  exact ⟨_, g2⟩
theorem mid_good {p q : Pt} (hp : Bp p) (hq : Bp q) : Gp (mid p q) := ⟨(md_ok hp.1 hq.1).2.2, (md_ok hp.2 hq.2).2.2⟩
theorem midPoint_is {p q : Pt} (hp : Bp p) (hq : Bp q) : font_midPoint.f p.1 p.2 q.1 q.2 = some (mid p q) := by
  obtain ⟨a1, a2, _⟩ := md_ok hp.1 hq.1
  obtain ⟨b1, b2, _⟩ := md_ok hp.2 hq.2
  unfold font_midPoint.f
  rw [if_pos a1, if_pos a2, if_pos b1, if_pos b2]
  rfl
theorem half_is {p q : Pt} (hp : Bp p) (hq : Bp q) : spec_half.f p.1 p.2 q.1 q.2 = some (mid p q) := by
  obtain ⟨a1, a2, _⟩ := md_ok hp.1 hq.1
  obtain ⟨b1, b2, _⟩ := md_ok hp.2 hq.2
  unfold spec_half.f
  rw [if_pos a1, if_pos a2, if_pos b1, if_pos b2]
  rfl
theorem oeq {a b : Nat} {x y : Rat} (ha : Fin .f32 a x) (hb : Fin .f32 b y) : (FloatKind.f32.format.order a b == some .eq) = decide (x = y) := (order_fin ha hb).2.1
def weq (a b : Nat) : Bool := FloatKind.f32.format.order a b == some .eq
def same (p q : Pt) : Bool := weq p.1 q.1 && weq p.2 q.2
theorem weq_refl {a : Nat} (h : Gw a) : weq a a = true := by
  obtain ⟨x, hx⟩ := h
  unfold weq
  rw [oeq hx hx]
  exact decide_eq_true rfl
theorem weq_comm {a b : Nat} (ha : Gw a) (hb : Gw b) : weq a b = weq b a := by
  obtain ⟨x, hx⟩ := ha
  obtain ⟨y, hy⟩ := hb
  unfold weq
  rw [oeq hx hy, oeq hy hx]
  exact decide_eq_decide.2 eq_comm
theorem same_refl {p : Pt} (h : Gp p) : same p p = true := by unfold same; rw [weq_refl h.1, weq_refl h.2]; rfl
theorem same_comm {p q : Pt} (h : Gp p) (k : Gp q) : same p q = same q p := by unfold same; rw [weq_comm h.1 k.1, weq_comm h.2 k.2]
/-! ### a contour's points, and what is made of them -/
abbrev Nd := Bool × Pt
def E : List S65 → Option Pt → List Nd
  | [], _ => []
  | s :: r, prev => if s.f0 = true then (true, ptOf s) :: E r none else (match prev with | none => [] | some q => [(true, mid q (ptOf s))]) ++ (false, ptOf s) :: E r (some (ptOf s))
def pend : Option Pt → List Nd
  | none => []
  | some o => [(false, o)]
def lo' : List S65 → Option Pt → Option Pt
  | [], l => l
  | s :: r, _ => lo' r (if s.f0 = true then none else some (ptOf s))
def Cl (fo L : Option Pt) (n0 : Pt) : List Nd :=
  match fo, L with
  | none, _ => [(true, n0)]
  | some f, none => [(false, f), (true, n0)]
  | some f, some o => [(true, mid o f), (false, f), (true, n0)]
def lineP (a b : Pt) : S129 := ⟨false, ⟨a.1, a.2⟩, ⟨0, 0⟩, ⟨b.1, b.2⟩⟩
def curveP (a o b : Pt) : S129 := ⟨true, ⟨a.1, a.2⟩, ⟨o.1, o.2⟩, ⟨b.1, b.2⟩⟩
def P : List Nd → Pt → List S129
  | [], _ => []
  | (true, b) :: r, a => (if same a b = true then [] else [lineP a b]) ++ P r b
  | [(false, _)], _ => []
  | (false, o) :: (_, b) :: r, a => curveP a o b :: P r b
def La : List Nd → Pt → Pt
  | [], a => a
  | (true, b) :: r, _ => La r b
  | [(false, _)], a => a
  | (false, _) :: (_, b) :: r, _ => La r b
def Wl : List Nd → Prop
  | [] => True
  | (true, _) :: r => Wl r
  | [(false, _)] => False
  | (false, _) :: _ :: r => Wl r
def seg0 (p : Pt) : S195 := ⟨0, ⟨⟨p.1, p.2⟩, ⟨0, 0⟩, ⟨0, 0⟩⟩⟩
def seg1 (p : Pt) : S195 := ⟨1, ⟨⟨p.1, p.2⟩, ⟨0, 0⟩, ⟨0, 0⟩⟩⟩
def seg2 (o p : Pt) : S195 := ⟨2, ⟨⟨o.1, o.2⟩, ⟨p.1, p.2⟩, ⟨0, 0⟩⟩⟩
def Sg : List Nd → List S195
  | [] => []
  | (true, b) :: r => seg1 b :: Sg r
  | [(false, _)] => []
  | (false, o) :: (_, b) :: r => seg2 o b :: Sg r
theorem La_snoc (b : Pt) (l : List Nd) (a : Pt) : La (l ++ [(true, b)]) a = b := by
  induction l, a using P.induct with
  | case1 a => rfl
  | case2 a x r ih => simpa [La] using ih
  | case3 o a => rfl
  | case4 a o q x r ih => simpa [La] using ih
theorem Wl_snoc (b : Pt) (l : List Nd) (a : Pt) : Wl (l ++ [(true, b)]) := by
  induction l, a using P.induct with
  | case1 a => trivial
  | case2 a x r ih => simpa [Wl] using ih
  | case3 o a => trivial
  | case4 a o q x r ih => simpa [Wl] using ih
theorem P_split (m : Pt) (l2 : List Nd) (l : List Nd) (a : Pt) : P (l ++ (true, m) :: l2) a = P (l ++ [(true, m)]) a ++ P l2 m := by
  induction l, a using P.induct with
  | case1 a => simp [P]
  | case2 a x r ih => simp [P, ih]
  | case3 o a => simp [P]
  | case4 a o q x r ih => simp [P, ih]
theorem Sg_len (l : List Nd) : (Sg l).length ≤ l.length := by
  induction l, ((0, 0) : Pt) using P.induct with
  | case1 a => simp [Sg]
  | case2 a x r ih => simp [Sg]; omega
  | case3 o a => simp [Sg]
  | case4 a o q x r ih => simp [Sg]; omega
theorem P_len (l : List Nd) (a : Pt) : (P l a).length ≤ l.length := by
  induction l, a using P.induct with
  | case1 a => simp [P]
  | case2 a x r ih =>
    simp only [P, List.length_append, List.length_cons]
    split <;> simp <;> omega
  | case3 o a => simp [P]
  | case4 a o q x r ih => simp [P]; omega
theorem E_len : ∀ (r : List S65) (p : Option Pt), (E r p).length ≤ 2 * r.length
  | [], _ => by simp [E]
  | s :: r, p => by
    have h1 := E_len r none
    have h2 := E_len r (some (ptOf s))
    simp only [E]
    split
    · simp; omega
    · cases p <;> simp <;> omega

/-! ### the package's strokes of a row of contours -/
theorem w64 (n : Int) (h : -9223372036854775808 ≤ n ∧ n ≤ 9223372036854775807) : wrap64 n = n := by unfold wrap64; omega
theorem wsucc (i : Nat) (h : i < 10000000) : wrap64 ((i : Int) + 1) = ((i + 1 : Nat) : Int) := by rw [w64 _ (by omega)]; omega
theorem Ev.back {α : Type} {g f : Nat → Option α} {r : α} (h : ∀ k, g (k + 1) = f k) (hg : Ev g r) : Ev f r := by
  obtain ⟨k0, hk⟩ := hg
  exact ⟨k0, fun k hk' => by rw [← h k]; exact hk (k + 1) (by omega)⟩
theorem drop_head {α : Type} {l : List α} {i : Nat} {x : α} {t : List α} (h : l.drop i = x :: t) : l[i]? = some x ∧ i < l.length ∧ l.drop (i + 1) = t := by
  have h0 : (l.drop i)[0]? = some x := by rw [h]; rfl
  rw [List.getElem?_drop, Nat.add_zero] at h0
  refine ⟨h0, (List.getElem?_eq_some_iff.1 h0).1, ?_⟩
  rw [← List.tail_drop, h]
  rfl
def q198 (e : Bool) (s : S65) : S198 := ⟨⟨fw s.f1, fw s.f2⟩, s.f0, e, false⟩
def mk : List S65 → List S198
  | [] => []
  | s :: r => q198 r.isEmpty s :: mk r
theorem mk_len : ∀ r, (mk r).length = r.length
  | [] => rfl
  | s :: r => by simp [mk, mk_len r]
theorem rd198 {pts : List S198} {i : Nat} {x : S198} {t : List S198} (h : pts.drop i = x :: t) : rd_T198 pts (i : Int) = x := by
  have := (drop_head h).1
  unfold rd_T198
  rw [Int.toNat_natCast, List.getD_eq_getElem?_getD, this]
  rfl
theorem bclose (fo lo : Option Pt) (out : List S195) (pts : List S198) (n : Int) (i : Nat) (fO fF lO : Pt) (px py : Nat) (e2 e5 : Bool) (hfo : ∀ f, fo = some f → fF = f ∧ Bp f) (hlo : ∀ o, lo = some o → lO = o ∧ Bp o) (hl : out.length < 1000000) (hi : i < 1000000) (R : List S195)
    (h : ∀ a b c : Pt, Ev (fun k => font_buildSegments.l0 k false false false (out ++ Sg (pend lo ++ Cl fo lo fO)) pts n ((i + 1 : Nat) : Int) a.1 a.2 b.1 b.2 c.1 c.2) R) :
    Ev (fun k => font_buildSegments.j1 k true fo.isSome lo.isSome out pts n (i : Int) fO.1 fO.2 fF.1 fF.2 lO.1 lO.2 px py e2 true e5) R := by
  have hw := wsucc i (by omega)
  have hl' : out.length < 5026338869833 := by omega
  cases fo with
  | none =>
    cases lo with
    | none =>
      refine Ev.step (f := fun k => font_buildSegments.j2 k false false out pts n i true fO.1 fO.2 fF.1 fF.2 lO.1 lO.2) (fun k => by rw [font_buildSegments.j1]; simp) ?_
      refine Ev.step (fun k => ?_) (h fO fF lO)
      rw [font_buildSegments.j2, if_pos rfl, if_pos hl', hw]
      rfl
    | some o =>
      obtain ⟨rfl, ho⟩ := hlo o rfl
      refine Ev.step (f := fun k => font_buildSegments.j2 k false true out pts n i false fO.1 fO.2 fF.1 fF.2 lO.1 lO.2) (fun k => by rw [font_buildSegments.j1]; simp) ?_
      refine Ev.step (f := fun k => font_buildSegments.j3 k false true out pts n i true fO.1 fO.2 fF.1 fF.2 lO.1 lO.2) (fun k => by rw [font_buildSegments.j2]; simp) ?_
      refine Ev.step (fun k => ?_) (h fO fF lO)
      rw [font_buildSegments.j3, if_pos rfl, if_pos hl', hw]
      rfl
  | some f =>
    obtain ⟨rfl, hf⟩ := hfo f rfl
    cases lo with
    | none =>
      refine Ev.step (f := fun k => font_buildSegments.j2 k true false out pts n i false fO.1 fO.2 fF.1 fF.2 lO.1 lO.2) (fun k => by rw [font_buildSegments.j1]; simp) ?_
      refine Ev.step (f := fun k => font_buildSegments.j3 k true false out pts n i false fO.1 fO.2 fF.1 fF.2 lO.1 lO.2) (fun k => by rw [font_buildSegments.j2]; simp) ?_
      refine Ev.step (f := fun k => font_buildSegments.j4 k true false out pts n i true fO.1 fO.2 fF.1 fF.2 lO.1 lO.2) (fun k => by rw [font_buildSegments.j3]; simp) ?_
      refine Ev.step (fun k => ?_) (h fO fF lO)
      rw [font_buildSegments.j4, if_pos rfl, if_pos hl', hw]
      rfl
    | some o =>
      obtain ⟨rfl, ho⟩ := hlo o rfl
      refine Ev.step (f := fun k => font_buildSegments.j2 k true true out pts n i false fO.1 fO.2 fF.1 fF.2 lO.1 lO.2) (fun k => by rw [font_buildSegments.j1]; simp) ?_
      refine Ev.step (f := fun k => font_buildSegments.j3 k true true out pts n i false fO.1 fO.2 fF.1 fF.2 lO.1 lO.2) (fun k => by rw [font_buildSegments.j2]; simp) ?_
      refine Ev.step (f := fun k => font_buildSegments.j4 k true true out pts n i false fO.1 fO.2 fF.1 fF.2 lO.1 lO.2) (fun k => by rw [font_buildSegments.j3]; simp) ?_
      refine Ev.step (f := fun k => font_buildSegments.j5 k out pts n i true fO.1 fO.2 fF.1 fF.2 lO.1 lO.2) (fun k => by rw [font_buildSegments.j4]; simp) ?_
      refine Ev.step (fun k => ?_) (h fO fF lO)
      rw [font_buildSegments.j5, if_pos rfl, midPoint_is ho hf]
      simp only [Option.bind_some]
      rw [if_pos (by simp; omega), hw]
      rfl
theorem bstep : ∀ (r : List S65) (fo lo : Option Pt) (out : List S195) (pts : List S198) (n : Int) (i : Nat) (fO fF lO : Pt) (px py : Nat) (e2 e5 : Bool) (post : List S198) (_ : ∀ s ∈ r, Bp (ptOf s)) (_ : ∀ f, fo = some f → fF = f ∧ Bp f) (_ : ∀ o, lo = some o → lO = o ∧ Bp o)
    (_ : out.length + r.length < 1000000) (_ : i + r.length < 1000000) (_ : n = (pts.length : Int)) (_ : pts.drop (i + 1) = mk r ++ post) (R : List S195)
    (_ : ∀ a b c : Pt, Ev (fun k => font_buildSegments.l0 k false false false (out ++ Sg (pend lo ++ (E r lo ++ Cl fo (lo' r lo) fO))) pts n ((i + 1 + r.length : Nat) : Int) a.1 a.2 b.1 b.2 c.1 c.2) R),
    Ev (fun k => font_buildSegments.j1 k true fo.isSome lo.isSome out pts n (i : Int) fO.1 fO.2 fF.1 fF.2 lO.1 lO.2 px py e2 r.isEmpty e5) R
  | [], fo, lo, out, pts, n, i, fO, fF, lO, px, py, e2, e5, post, hr, hfo, hlo, hl, hi, hn, hd, R, h => by
    refine bclose fo lo out pts n i fO fF lO px py e2 e5 hfo hlo (by simpa using hl) (by simpa using hi) R (fun a b c => ?_)
    simpa [E, lo'] using h a b c
  | s :: r, fo, lo, out, pts, n, i, fO, fF, lO, px, py, e2, e5, post, hr, hfo, hlo, hl, hi, hn, hd, R, h => by
    simp only [List.length_cons] at hl hi
    have hw := wsucc i (by omega)
    have hw2 := wsucc (i + 1) (by omega)
    have hl' : out.length < 5026338869833 := by omega
    have hd' : pts.drop (i + 1) = q198 r.isEmpty s :: (mk r ++ post) := hd
    have hrd := rd198 hd'
    obtain ⟨_, hlt, hd2⟩ := drop_head hd'
    have h1 : ((i + 1 : Nat) : Int) < n := by rw [hn]; omega
    have h2 : (0 : Int) ≤ ((i + 1 : Nat) : Int) := by omega
    have h3 : ((i + 1 : Nat) : Int) < (pts.length : Int) := by omega
    have hs := hr s List.mem_cons_self
    have hr' : ∀ s ∈ r, Bp (ptOf s) := fun x hx => hr x (List.mem_cons_of_mem _ hx)
    have e0 : i + 1 + (r.length + 1) = i + 1 + 1 + r.length := by omega
    refine Ev.step (f := fun k => font_buildSegments.l0 k true fo.isSome lo.isSome out pts n ((i + 1 : Nat) : Int) fO.1 fO.2 fF.1 fF.2 lO.1 lO.2) (fun k => by rw [font_buildSegments.j1, if_neg (by simp), hw]) ?_
    cases lo with
    | some o =>
      obtain ⟨rfl, ho⟩ := hlo o rfl
      by_cases hf0 : s.f0 = true
      · refine Ev.step (f := fun k => font_buildSegments.j1 k true fo.isSome (none : Option Pt).isSome (out ++ [seg2 lO (ptOf s)]) pts n ((i + 1 : Nat) : Int) fO.1 fO.2 fF.1 fF.2 lO.1 lO.2 (fw s.f1) (fw s.f2) s.f0 r.isEmpty false) (fun k => ?_)
          (bstep r fo none (out ++ [seg2 lO (ptOf s)]) pts n (i + 1) fO fF lO _ _ _ _ post hr' hfo (fun o h => by cases h) (by simp; omega) (by omega) hn hd2 R (fun a b c => ?_))
        · rw [font_buildSegments.l0, if_pos h1, if_pos h2, if_pos h3, hrd, if_pos rfl, if_pos (show (some lO).isSome = true from rfl), if_pos (show (q198 r.isEmpty s).f1 = true from hf0), if_pos hl']
          rfl
        · have := h a b c
          rw [List.length_cons, e0] at this
          simp only [E, if_pos hf0, lo', pend, List.cons_append, List.nil_append, Sg] at this
          simpa [pend] using this
      · refine Ev.step (f := fun k => font_buildSegments.j1 k true fo.isSome (some (ptOf s)).isSome (out ++ [seg2 lO (mid lO (ptOf s))]) pts n ((i + 1 : Nat) : Int) fO.1 fO.2 fF.1 fF.2 (ptOf s).1 (ptOf s).2 (fw s.f1) (fw s.f2) s.f0 r.isEmpty false) (fun k => ?_)
          (bstep r fo (some (ptOf s)) (out ++ [seg2 lO (mid lO (ptOf s))]) pts n (i + 1) fO fF (ptOf s) _ _ _ _ post hr' hfo (fun o h => by injection h with h; exact ⟨h, h ▸ hs⟩) (by simp; omega) (by omega) hn hd2 R (fun a b c => ?_))
        · rw [font_buildSegments.l0, if_pos h1, if_pos h2, if_pos h3, hrd, if_pos rfl, if_pos (show (some lO).isSome = true from rfl), if_neg (show ¬ (q198 r.isEmpty s).f1 = true from hf0)]
          show (font_midPoint.f lO.1 lO.2 (ptOf s).1 (ptOf s).2).bind _ = _
          rw [midPoint_is ho hs, Option.bind_some, if_pos hl']
          rfl
        · have := h a b c
          rw [List.length_cons, e0] at this
          simp only [E, if_neg hf0, lo', pend, List.cons_append, List.nil_append, Sg] at this
          simpa [pend] using this
    | none =>
      by_cases hf0 : s.f0 = true
      · refine Ev.step (f := fun k => font_buildSegments.j1 k true fo.isSome (none : Option Pt).isSome (out ++ [seg1 (ptOf s)]) pts n ((i + 1 : Nat) : Int) fO.1 fO.2 fF.1 fF.2 lO.1 lO.2 (fw s.f1) (fw s.f2) s.f0 r.isEmpty false) (fun k => ?_)
          (bstep r fo none (out ++ [seg1 (ptOf s)]) pts n (i + 1) fO fF lO _ _ _ _ post hr' hfo (fun o h => by cases h) (by simp; omega) (by omega) hn hd2 R (fun a b c => ?_))
        · rw [font_buildSegments.l0, if_pos h1, if_pos h2, if_pos h3, hrd, if_pos rfl, if_neg (show ¬ (none : Option Pt).isSome = true by simp), if_pos (show (q198 r.isEmpty s).f1 = true from hf0), if_pos hl']
          rfl
        · have := h a b c
          rw [List.length_cons, e0] at this
          simp only [E, if_pos hf0, lo', pend, List.cons_append, List.nil_append, Sg] at this
          simpa [pend] using this
      · have hb := bstep r fo (some (ptOf s)) out pts n (i + 1) fO fF (ptOf s) (fw s.f1) (fw s.f2) s.f0 false post hr' hfo (fun o h => by injection h with h; exact ⟨h, h ▸ hs⟩) (by omega) (by omega) hn hd2 R (fun a b c => by
          have := h a b c
          rw [List.length_cons, e0] at this
          simp only [E, if_neg hf0, lo', pend, List.cons_append, List.nil_append] at this
          simpa [pend] using this)
        cases hre : r.isEmpty with
        | true =>
          rw [hre] at hb
          refine Ev.step (fun k => ?_) hb
          rw [font_buildSegments.l0, if_pos h1, if_pos h2, if_pos h3, hrd, if_pos rfl, if_neg (show ¬ (none : Option Pt).isSome = true by simp), if_neg (show ¬ (q198 r.isEmpty s).f1 = true from hf0), if_pos (by simp [q198, hre])]
          simp [q198, hre, ptOf]
        | false =>
          rw [hre] at hb
          have hb2 := Ev.back (f := fun k => font_buildSegments.l0 k true fo.isSome true out pts n ((i + 1 + 1 : Nat) : Int) fO.1 fO.2 fF.1 fF.2 (ptOf s).1 (ptOf s).2) (fun k => by rw [font_buildSegments.j1, if_neg (by simp), hw2]; rfl) hb
          refine Ev.step (fun k => ?_) hb2
          rw [font_buildSegments.l0, if_pos h1, if_pos h2, if_pos h3, hrd, if_pos rfl, if_neg (show ¬ (none : Option Pt).isSome = true by simp), if_neg (show ¬ (q198 r.isEmpty s).f1 = true from hf0), if_neg (by simp [q198, hre]), hw2]
          rfl

/-- Where a contour begins. -/
def stp : List S65 → Pt
  | [] => (0, 0)
  | s :: r => if s.f0 = true then ptOf s else match r with
    | [] => (0, 0)
    | s2 :: _ => if s2.f0 = true then ptOf s2 else mid (ptOf s) (ptOf s2)
/-- What comes behind. -/
def rst : List S65 → List Nd
  | [] => []
  | s :: r => if s.f0 = true then E r none ++ Cl none (lo' r none) (ptOf s) else match r with
    | [] => []
    | s2 :: r2 => if s2.f0 = true then E r2 none ++ Cl (some (ptOf s)) (lo' r2 none) (ptOf s2)
      else (false, ptOf s2) :: (E r2 (some (ptOf s2)) ++ Cl (some (ptOf s)) (lo' r2 (some (ptOf s2))) (mid (ptOf s) (ptOf s2)))
def sgs (c : List S65) : List S195 := seg0 (stp c) :: Sg (rst c)
structure Ok (c : List S65) : Prop where
  ne : c ≠ []
  one : ∀ s, c = [s] → s.f0 = true
  co : ∀ s ∈ c, s.f1.natAbs ≤ 8192 ∧ s.f2.natAbs ≤ 8192
  len : c.length ≤ 12
theorem Ok.pts {c : List S65} (h : Ok c) : ∀ s ∈ c, Bp (ptOf s) := fun s hs => ⟨⟨_, (h.co s hs).1, rfl⟩, ⟨_, (h.co s hs).2, rfl⟩⟩
theorem Cl_len (fo L : Option Pt) (n0 : Pt) : (Cl fo L n0).length ≤ 3 := by
  cases fo <;> cases L <;> simp [Cl]
theorem rst_len (c : List S65) : (rst c).length ≤ 2 * c.length + 4 := by
  cases c with
  | nil => simp [rst]
  | cons s r =>
    simp only [rst]
    split
    · have := E_len r none
      have := Cl_len none (lo' r none) (ptOf s)
      simp only [List.length_append, List.length_cons]; omega
    · cases r with
      | nil => simp
      | cons s2 r2 =>
        simp only
        split
        · have := E_len r2 none
          have := Cl_len (some (ptOf s)) (lo' r2 none) (ptOf s2)
          simp only [List.length_append, List.length_cons]; omega
        · have := E_len r2 (some (ptOf s2))
          have := Cl_len (some (ptOf s)) (lo' r2 (some (ptOf s2))) (mid (ptOf s) (ptOf s2))
          simp only [List.length_append, List.length_cons]; omega
theorem sgs_len {c : List S65} (h : Ok c) : (sgs c).length ≤ 40 := by
  have := Sg_len (rst c)
  have := rst_len c
  have := h.len
  simp only [sgs, List.length_cons]
  omega
theorem bfresh (c : List S65) (hc : Ok c) (out : List S195) (pts : List S198) (n : Int) (i : Nat) (fO fF lO : Pt) (post : List S198) (hl : out.length < 900000) (hi : i < 900000) (hn : n = (pts.length : Int)) (hd : pts.drop i = mk c ++ post) (R : List S195)
    (h : ∀ a b d : Pt, Ev (fun k => font_buildSegments.l0 k false false false (out ++ sgs c) pts n ((i + c.length : Nat) : Int) a.1 a.2 b.1 b.2 d.1 d.2) R) :
    Ev (fun k => font_buildSegments.l0 k false false false out pts n (i : Int) fO.1 fO.2 fF.1 fF.2 lO.1 lO.2) R := by
  cases c with
  | nil => exact absurd rfl hc.ne
  | cons s r =>
    have hlen := hc.len
    simp only [List.length_cons] at hlen
    have hw := wsucc i (by omega)
    have hl' : out.length < 5026338869833 := by omega
    have hd' : pts.drop i = q198 r.isEmpty s :: (mk r ++ post) := hd
    have hrd := rd198 hd'
    obtain ⟨_, hlt, hd2⟩ := drop_head hd'
    have h1 : (i : Int) < n := by rw [hn]; omega
    have h2 : (0 : Int) ≤ (i : Int) := by omega
    have h3 : (i : Int) < (pts.length : Int) := by omega
    have hs := hc.pts s List.mem_cons_self
    have hr' : ∀ s ∈ r, Bp (ptOf s) := fun x hx => hc.pts x (List.mem_cons_of_mem _ hx)
    have e0 : i + (r.length + 1) = i + 1 + r.length := by omega
    by_cases hf0 : s.f0 = true
    · refine Ev.step (f := fun k => font_buildSegments.j1 k true (none : Option Pt).isSome (none : Option Pt).isSome (out ++ [seg0 (ptOf s)]) pts n (i : Int) (ptOf s).1 (ptOf s).2 fF.1 fF.2 lO.1 lO.2 (fw s.f1) (fw s.f2) s.f0 r.isEmpty false) (fun k => ?_)
        (bstep r none none (out ++ [seg0 (ptOf s)]) pts n i (ptOf s) fF lO _ _ _ _ post hr' (fun o h => by cases h) (fun o h => by cases h) (by simp; omega) (by omega) hn hd2 R (fun a b c => ?_))
      · rw [font_buildSegments.l0, if_pos h1, if_pos h2, if_pos h3, hrd, if_neg (by simp), if_pos (show (q198 r.isEmpty s).f1 = true from hf0), if_pos hl']
        rfl
      · have := h a b c
        rw [List.length_cons, e0] at this
        simp only [sgs, stp, rst, if_pos hf0] at this
        simpa [pend] using this
    · cases r with
      | nil => exact absurd (hc.one s rfl) hf0
      | cons s2 r2 =>
        simp only [List.length_cons] at hlen
        have hd2' : pts.drop (i + 1) = q198 r2.isEmpty s2 :: (mk r2 ++ post) := hd2
        have hrd2 := rd198 hd2'
        obtain ⟨_, hlt2, hd3⟩ := drop_head hd2'
        have g1 : ((i + 1 : Nat) : Int) < n := by rw [hn]; omega
        have g2 : (0 : Int) ≤ ((i + 1 : Nat) : Int) := by omega
        have g3 : ((i + 1 : Nat) : Int) < (pts.length : Int) := by omega
        have hs2 := hr' s2 List.mem_cons_self
        have hr2 : ∀ s ∈ r2, Bp (ptOf s) := fun x hx => hr' x (List.mem_cons_of_mem _ hx)
        have e1 : i + (r2.length + 1 + 1) = i + 1 + 1 + r2.length := by omega
        refine Ev.step (f := fun k => font_buildSegments.l0 k false true false out pts n ((i + 1 : Nat) : Int) fO.1 fO.2 (ptOf s).1 (ptOf s).2 lO.1 lO.2) (fun k => ?_) ?_
        · rw [font_buildSegments.l0, if_pos h1, if_pos h2, if_pos h3, hrd, if_neg (by simp), if_neg (show ¬ (q198 (s2 :: r2).isEmpty s).f1 = true from hf0), if_neg (by simp), if_neg (by simp [q198]), hw]
          rfl
        by_cases hf2 : s2.f0 = true
        · refine Ev.step (f := fun k => font_buildSegments.j1 k true (some (ptOf s)).isSome (none : Option Pt).isSome (out ++ [seg0 (ptOf s2)]) pts n ((i + 1 : Nat) : Int) (ptOf s2).1 (ptOf s2).2 (ptOf s).1 (ptOf s).2 lO.1 lO.2 (fw s2.f1) (fw s2.f2) s2.f0 r2.isEmpty false) (fun k => ?_)
            (bstep r2 (some (ptOf s)) none (out ++ [seg0 (ptOf s2)]) pts n (i + 1) (ptOf s2) (ptOf s) lO _ _ _ _ post hr2 (fun o h => by injection h with h; exact ⟨h, h ▸ hs⟩) (fun o h => by cases h) (by simp; omega) (by omega) hn hd3 R (fun a b c => ?_))
          · rw [font_buildSegments.l0, if_pos g1, if_pos g2, if_pos g3, hrd2, if_neg (by simp), if_pos (show (q198 r2.isEmpty s2).f1 = true from hf2), if_pos hl']
            rfl
          · have := h a b c
            rw [List.length_cons, List.length_cons, e1] at this
            simp only [sgs, stp, rst, if_neg hf0, if_pos hf2] at this
            simpa [pend] using this
        · refine Ev.step (f := fun k => font_buildSegments.j1 k true (some (ptOf s)).isSome (some (ptOf s2)).isSome (out ++ [seg0 (mid (ptOf s) (ptOf s2))]) pts n ((i + 1 : Nat) : Int) (mid (ptOf s) (ptOf s2)).1 (mid (ptOf s) (ptOf s2)).2 (ptOf s).1 (ptOf s).2 (ptOf s2).1 (ptOf s2).2 (fw s2.f1) (fw s2.f2) s2.f0 r2.isEmpty false) (fun k => ?_)
            (bstep r2 (some (ptOf s)) (some (ptOf s2)) (out ++ [seg0 (mid (ptOf s) (ptOf s2))]) pts n (i + 1) (mid (ptOf s) (ptOf s2)) (ptOf s) (ptOf s2) _ _ _ _ post hr2 (fun o h => by injection h with h; exact ⟨h, h ▸ hs⟩) (fun o h => by injection h with h; exact ⟨h, h ▸ hs2⟩) (by simp; omega) (by omega) hn hd3 R (fun a b c => ?_))
          · rw [font_buildSegments.l0, if_pos g1, if_pos g2, if_pos g3, hrd2, if_neg (by simp), if_neg (show ¬ (q198 r2.isEmpty s2).f1 = true from hf2), if_pos rfl]
            show (font_midPoint.f (ptOf s).1 (ptOf s).2 (ptOf s2).1 (ptOf s2).2).bind _ = _
            rw [midPoint_is hs hs2, Option.bind_some, if_pos hl']
            rfl
          · have := h a b c
            rw [List.length_cons, List.length_cons, e1] at this
            simp only [sgs, stp, rst, if_neg hf0, if_neg hf2] at this
            simpa [pend] using this
theorem blist : ∀ (all : List (List S65)) (_ : ∀ c ∈ all, Ok c) (out : List S195) (pts : List S198) (n : Int) (i : Nat) (fO fF lO : Pt) (_ : out.length + 40 * all.length < 900000) (_ : i + 12 * all.length < 900000) (_ : n = (pts.length : Int)) (_ : pts.drop i = all.flatMap mk) (_ : i ≤ pts.length),
    Ev (fun k => font_buildSegments.l0 k false false false out pts n (i : Int) fO.1 fO.2 fF.1 fF.2 lO.1 lO.2) (out ++ all.flatMap sgs)
  | [], _, out, pts, n, i, fO, fF, lO, _, _, hn, hd, hip => by
    have : pts.length ≤ i := by simpa using hd
    refine Ev.step (f := fun _ => some out) (fun k => ?_) (by simpa using Ev.now out)
    rw [font_buildSegments.l0, if_neg (by omega)]
  | c :: r, hok, out, pts, n, i, fO, fF, lO, hl, hi, hn, hd, hip => by
    have hc := hok c List.mem_cons_self
    have hsl := sgs_len hc
    have hcl := hc.len
    simp only [List.length_cons] at hl hi
    have hd' : pts.drop i = mk c ++ r.flatMap mk := by rw [hd, List.flatMap_cons]
    have hlen : (pts.drop i).length = (mk c).length + (r.flatMap mk).length := by rw [hd', List.length_append]
    rw [List.length_drop, mk_len] at hlen
    refine bfresh c hc out pts n i fO fF lO (r.flatMap mk) (by omega) (by omega) hn hd' _ (fun a b d => ?_)
    have := blist r (fun x hx => hok x (List.mem_cons_of_mem _ hx)) (out ++ sgs c) pts n (i + c.length) a b d (by rw [List.length_append]; omega) (by omega) hn (by rw [← List.drop_drop, hd', ← mk_len c, List.drop_left]) (by omega)
    simpa [List.flatMap_cons] using this
theorem build_is (all : List (List S65)) (hok : ∀ c ∈ all, Ok c) (hl : all.length ≤ 5) : Ev (fun k => font_buildSegments.f k (all.flatMap mk)) (all.flatMap sgs) := by
  cases all with
  | nil => exact Ev.congr (f := fun _ => some []) (fun k => by simp [font_buildSegments.f]) (Ev.now _)
  | cons c r =>
    have hc := hok c List.mem_cons_self
    have hmax : ∀ (l : List (List S65)), (∀ c ∈ l, Ok c) → (l.flatMap mk).length ≤ 12 * l.length := by
      intro l hl
      induction l with
      | nil => simp
      | cons x l ih =>
        have h1 := ih (fun y hy => hl y (List.mem_cons_of_mem _ hy))
        have h2 := (hl x List.mem_cons_self).len
        rw [List.flatMap_cons, List.length_append, mk_len, List.length_cons]
        omega
    have hm := hmax (c :: r) hok
    have hpos : 0 < ((c :: r).flatMap mk).length := by
      rw [List.flatMap_cons, List.length_append, mk_len]
      have := List.length_pos_iff.2 hc.ne
      omega
    generalize hp : (c :: r).flatMap mk = pts at *
    have hb := blist (c :: r) hok [] pts (pts.length : Int) 0 (0, 0) (0, 0) (0, 0) (by simp only [List.length_nil]; omega) (by omega) rfl (by rw [List.drop_zero, hp]) (by omega)
    refine Ev.congr (fun k => ?_) hb
    have hw : wrap64 ((pts.length : Int) + 2) = (pts.length : Int) + 2 := w64 _ (by omega)
    unfold font_buildSegments.f
    rw [if_neg (by omega), hw, if_pos (by omega), if_pos (by omega)]
    rfl

theorem i16w (n : Int) (h : -32768 ≤ n ∧ n ≤ 32767) : IntKind.i16.wrap n = n := by simp only [IntKind.wrap, IntKind.bits, IntKind.signed]; simp; omega
theorem getD_drop {α : Type} {l : List α} {i : Nat} {x : α} {t : List α} (z : α) (h : l.drop i = x :: t) : l.getD i z = x := by
  rw [List.getD_eq_getElem?_getD, (drop_head h).1]
  rfl
def cz (x : S133) : S198 := ⟨⟨x.f2, x.f3⟩, x.f0, x.f1, false⟩
theorem zz_l0 : ∀ (t : List S133) (x3 : List S198) (l : List S133) (i : Nat) (R : List S195) (_ : l.drop i = t) (_ : i ≤ l.length) (_ : l.length < 900000) (_ : x3.length + t.length < 900000) (_ : Ev (fun k => font_buildSegments.f k (x3 ++ t.map cz)) R), Ev (fun k => font_ZzContours.l0 k x3 l (l.length : Int) (i : Int)) R
  | [], x3, l, i, R, hd, hi, hl, hx, h => by
    have : l.length ≤ i := by simpa using hd
    rw [List.map_nil, List.append_nil] at h
    refine Ev.step (f := fun k => (font_buildSegments.f k x3).bind fun t => some t) (fun k => ?_) (Ev.bind h (Ev.now _))
    rw [font_ZzContours.l0, if_neg (by omega)]
  | x :: t, x3, l, i, R, hd, hi, hl, hx, h => by
    obtain ⟨_, hlt, hd2⟩ := drop_head hd
    have hrd : rd_T133 l (i : Int) = x := getD_drop z133 hd
    simp only [List.length_cons] at hx
    refine Ev.step (f := fun k => font_ZzContours.l0 k (x3 ++ [cz x]) l (l.length : Int) ((i + 1 : Nat) : Int)) (fun k => ?_)
      (zz_l0 t (x3 ++ [cz x]) l (i + 1) R hd2 (by omega) hl (by simp; omega) (by simpa using h))
    rw [font_ZzContours.l0, if_pos (by omega), if_pos (by omega), if_pos (by omega), if_pos (by omega), hrd, wsucc i (by omega)]
    rfl
def p133 (e : Bool) (s : S65) : S133 := ⟨s.f0, e, fw s.f1, fw s.f2⟩
def m133 : List S65 → List S133
  | [] => []
  | s :: r => p133 r.isEmpty s :: m133 r
theorem m133_cz : ∀ c, (m133 c).map cz = mk c
  | [] => rfl
  | s :: r => by rw [m133, List.map_cons, m133_cz r]; rfl
theorem m133_len : ∀ r, (m133 r).length = r.length
  | [] => rfl
  | s :: r => by simp [m133, m133_len r]
theorem sixteen_is (x : Int) (h : x.natAbs ≤ 8192) : Ev (fun k => impl_sixteen.f k x) x := by
  have h1 : ¬ x < -32768 := by omega
  refine Ev.congr (f := fun k => impl_sixteen.j0 k x false) (fun k => ?_) (Ev.step (f := fun _ => some x) (fun k => ?_) (Ev.now _))
  · unfold impl_sixteen.f
    rw [if_neg h1]
    congr 1
    exact decide_eq_false (by omega)
  · rw [impl_sixteen.j0, if_neg (by simp), i16w x (by omega)]
def sc (s : S127) : S127 := s
def cv (x : S195) : S127 := ⟨wrap64 x.f0, ⟨x.f1.f0.f0, x.f1.f1.f0, x.f1.f2.f0⟩, ⟨x.f1.f0.f1, x.f1.f1.f1, x.f1.f2.f1⟩⟩
theorem st_l0 : ∀ (t : List S195) (x2 : List S127) (l : List S195) (i : Nat) (_ : l.drop i = t) (_ : i ≤ l.length) (_ : l.length < 900000) (_ : x2.length + t.length < 900000), Ev (fun k => impl_strokes.l0 k x2 l (l.length : Int) (i : Int)) (x2 ++ t.map cv)
  | [], x2, l, i, hd, hi, hl, hx => by
    have : l.length ≤ i := by simpa using hd
    rw [List.map_nil, List.append_nil]
    refine Ev.step (f := fun _ => some x2) (fun k => ?_) (Ev.now _)
    rw [impl_strokes.l0, if_neg (by omega)]
  | x :: t, x2, l, i, hd, hi, hl, hx => by
    obtain ⟨_, hlt, hd2⟩ := drop_head hd
    have hrd : rd_T195 l (i : Int) = x := getD_drop z195 hd
    simp only [List.length_cons] at hx
    have ih := st_l0 t (x2 ++ [cv x]) l (i + 1) hd2 (by omega) hl (by simp; omega)
    refine Ev.step (f := fun k => impl_strokes.l0 k (x2 ++ [cv x]) l (l.length : Int) ((i + 1 : Nat) : Int)) (fun k => ?_) (by simpa using ih)
    rw [impl_strokes.l0, if_pos (by omega), if_pos (by omega), if_pos (by omega), if_pos (by omega), hrd, wsucc i (by omega)]
    rfl
theorem contours_l1 (all : List (List S65)) (ci : Nat) (c : List S65) (n : Int) (R : List S127) (hco : ∀ s ∈ c, s.f1.natAbs ≤ 8192 ∧ s.f2.natAbs ≤ 8192) (hcl : c.length < 900000) (hci : ci < 900000) : ∀ (t : List S65) (x3 : List S133) (i : Nat) (_ : c.drop i = t) (_ : i ≤ c.length) (_ : x3.length + t.length < 900000)
    (_ : Ev (fun k => impl_Contours.l0 k (x3 ++ m133 t) all n ((ci + 1 : Nat) : Int)) R),
    Ev (fun k => impl_Contours.l1 k x3 c all n (ci : Int) c (c.length : Int) (i : Int)) R
  | [], x3, i, hd, hi, hx, h => by
    have : c.length ≤ i := by simpa using hd
    simp only [m133, List.append_nil] at h
    refine Ev.step (f := fun k => impl_Contours.l0 k x3 all n ((ci + 1 : Nat) : Int)) (fun k => ?_) h
    rw [impl_Contours.l1, if_neg (by omega), wsucc ci (by omega)]
  | s :: t, x3, i, hd, hi, hx, h => by
    obtain ⟨_, hlt, hd2⟩ := drop_head hd
    have hrd : rd_T65 c (i : Int) = s := getD_drop z65 hd
    have hmem : s ∈ c := List.mem_of_mem_drop (hd ▸ List.mem_cons_self)
    obtain ⟨hx1, hx2⟩ := hco s hmem
    simp only [List.length_cons] at hx
    have hdl : c.length - i = t.length + 1 := by rw [← List.length_drop, hd, List.length_cons]
    have hend : ((i : Int) == wrap64 ((c.length : Int) - 1)) = t.isEmpty := by
      rw [w64 _ (by omega)]
      cases t with
      | nil => simp at hdl; exact beq_iff_eq.2 (by omega)
      | cons a b => simp at hdl; exact beq_eq_false_iff_ne.2 (by omega)
    have ih := contours_l1 all ci c n R hco hcl hci t (x3 ++ [p133 t.isEmpty s]) (i + 1) hd2 (by omega) (by simp; omega) (by simpa [m133] using h)
    refine Ev.step (f := fun k => (impl_sixteen.f k s.f1).bind fun t200 => ((impl_sixteen.f k s.f2).bind fun t201 => (if x3.length < 11728124029610 then (impl_Contours.l1 k (x3 ++ [(⟨s.f0, t.isEmpty, floatOfInt .f32 t200, floatOfInt .f32 t201⟩ : S133)]) c all n (ci : Int) c (c.length : Int) ((i + 1 : Nat) : Int)) else none))) (fun k => ?_)
      (Ev.bind (sixteen_is _ hx1) (Ev.bind (sixteen_is _ hx2) (Ev.congr (fun k => if_pos (by omega)) ih)))
    rw [impl_Contours.l1, if_pos (by omega), if_pos (by omega), if_pos (by omega), hrd, hend, wsucc i (by omega)]
theorem contours_l0 (all : List (List S65)) (hok : ∀ c ∈ all, Ok c) (hl : all.length ≤ 5) : ∀ (t : List (List S65)) (x3 : List S133) (i : Nat) (_ : all.drop i = t) (_ : i ≤ all.length) (_ : x3 ++ t.flatMap m133 = all.flatMap m133) (_ : x3.length + 12 * t.length ≤ 60),
    Ev (fun k => impl_Contours.l0 k x3 all (all.length : Int) (i : Int)) ((all.flatMap sgs).map cv)
  | [], x3, i, hd, hi, hx, hxl => by
    have : all.length ≤ i := by simpa using hd
    simp only [List.flatMap_nil, List.append_nil] at hx
    have hmap : x3.map cz = all.flatMap mk := by rw [hx, List.map_flatMap]; congr 1; funext c; exact m133_cz c
    have hsl : ∀ l : List (List S65), (∀ c ∈ l, Ok c) → (l.flatMap sgs).length ≤ 40 * l.length := by
      intro l hl
      induction l with
      | nil => simp
      | cons x l ih =>
        have h1 := ih (fun y hy => hl y (List.mem_cons_of_mem _ hy))
        have h2 := sgs_len (hl x List.mem_cons_self)
        rw [List.flatMap_cons, List.length_append, List.length_cons]
        omega
    have h200 := hsl all hok
    have hb := build_is all hok hl
    rw [← hmap] at hb
    have hz : Ev (fun k => font_ZzContours.f k x3) (all.flatMap sgs) := zz_l0 x3 [] x3 0 _ (by simp) (by omega) (by simp at hxl; omega) (by simp at hxl ⊢; omega) (by simpa using hb)
    have hst : Ev (fun k => impl_strokes.f k (all.flatMap sgs)) ((all.flatMap sgs).map cv) := by
      have := st_l0 (all.flatMap sgs) [] (all.flatMap sgs) 0 (by simp) (by omega) (by omega) (by rw [List.length_nil]; omega)
      simpa [impl_strokes.f] using this
    refine Ev.step (f := fun k => (font_ZzContours.f k x3).bind fun t205 => ((impl_strokes.f k t205).bind fun t208 => (some t208))) (fun k => ?_) (Ev.bind hz (Ev.bind hst (Ev.now _)))
    rw [impl_Contours.l0, if_neg (by omega)]
  | c :: t, x3, i, hd, hi, hx, hxl => by
    obtain ⟨_, hlt, hd2⟩ := drop_head hd
    have hrd : rd_L3 all (i : Int) = c := getD_drop [] hd
    have hmem : c ∈ all := List.mem_of_mem_drop (hd ▸ List.mem_cons_self)
    have hc := hok c hmem
    have hcl := hc.len
    simp only [List.length_cons] at hxl
    have ih := contours_l0 all hok hl t (x3 ++ m133 c) (i + 1) hd2 (by omega) (by rw [← hx, List.flatMap_cons, List.append_assoc]) (by rw [List.length_append, m133_len]; omega)
    refine Ev.step (f := fun k => impl_Contours.l1 k x3 c all (all.length : Int) (i : Int) c (c.length : Int) ((0 : Nat) : Int)) (fun k => ?_)
      (contours_l1 all i c (all.length : Int) _ hc.co (by omega) (by omega) c x3 0 (by simp) (by omega) (by omega) ih)
    rw [impl_Contours.l0, if_pos (by omega), if_pos (by omega), if_pos (by omega), hrd]
    rfl
theorem contours_is (all : List (List S65)) (hok : ∀ c ∈ all, Ok c) (hl : all.length ≤ 5) : Ev (fun k => impl_Contours.f k all) ((all.flatMap sgs).map cv) :=
  contours_l0 all hok hl all [] 0 (by simp) (by omega) (by simp) (by simp; omega)
/-! ### the pieces of strokes -/
def Gn (l : List Nd) : Prop := ∀ x ∈ l, Gp x.2
theorem E_good : ∀ (r : List S65) (p : Option Pt) (_ : ∀ s ∈ r, Bp (ptOf s)) (_ : ∀ q, p = some q → Bp q), Gn (E r p)
  | [], _, _, _ => fun x hx => by simp [E] at hx
  | s :: r, p, hr, hp => by
    have hs := hr s List.mem_cons_self
    have hr' : ∀ s ∈ r, Bp (ptOf s) := fun x hx => hr x (List.mem_cons_of_mem _ hx)
    have h1 := E_good r none hr' (fun q h => by cases h)
    have h2 := E_good r (some (ptOf s)) hr' (fun q h => by injection h with h; exact h ▸ hs)
    intro x hx
    simp only [E] at hx
    split at hx
    · rcases List.mem_cons.1 hx with rfl | hx
      · exact hs.good
      · exact h1 x hx
    · cases p with
      | none =>
        rcases List.mem_cons.1 hx with rfl | hx
        · exact hs.good
        · exact h2 x hx
      | some q =>
        rcases List.mem_cons.1 hx with rfl | hx
        · exact mid_good (hp q rfl) hs
        · rcases List.mem_cons.1 hx with rfl | hx
          · exact hs.good
          · exact h2 x hx
theorem lo_good : ∀ (r : List S65) (p : Option Pt) (_ : ∀ s ∈ r, Bp (ptOf s)) (_ : ∀ q, p = some q → Bp q), ∀ q, lo' r p = some q → Bp q
  | [], p, _, hp => hp
  | s :: r, p, hr, hp => lo_good r _ (fun x hx => hr x (List.mem_cons_of_mem _ hx)) (fun q h => by
      split at h
      · cases h
      · injection h with h; exact h ▸ hr s List.mem_cons_self)
theorem Cl_good (fo L : Option Pt) (n0 : Pt) (h0 : Gp n0) (hf : ∀ q, fo = some q → Bp q) (hL : ∀ q, L = some q → Bp q) : Gn (Cl fo L n0) := by
  intro x hx
  cases fo with
  | none => simp only [Cl, List.mem_singleton] at hx; subst hx; exact h0
  | some f =>
    have hf' := hf f rfl
    cases L with
    | none =>
      simp only [Cl, List.mem_cons, List.not_mem_nil, or_false] at hx
      rcases hx with rfl | rfl
      · exact hf'.good
      · exact h0
    | some o =>
      simp only [Cl, List.mem_cons, List.not_mem_nil, or_false] at hx
      rcases hx with rfl | rfl | rfl
      · exact mid_good (hL o rfl) hf'
      · exact hf'.good
      · exact h0
theorem stp_good {c : List S65} (hc : Ok c) : Gp (stp c) := by
  cases c with
  | nil => exact absurd rfl hc.ne
  | cons s r =>
    have hs := hc.pts s List.mem_cons_self
    simp only [stp]
    split
    · exact hs.good
    · cases r with
      | nil => exact absurd (hc.one s rfl) (by assumption)
      | cons s2 r2 =>
        have hs2 := hc.pts s2 (List.mem_cons_of_mem _ List.mem_cons_self)
        simp only
        split
        · exact hs2.good
        · exact mid_good hs hs2

theorem rst_good {c : List S65} (hc : Ok c) : Gn (rst c) := by
  cases c with
  | nil => exact absurd rfl hc.ne
  | cons s r =>
    have hs := hc.pts s List.mem_cons_self
    have hr : ∀ s ∈ r, Bp (ptOf s) := fun x hx => hc.pts x (List.mem_cons_of_mem _ hx)
    intro x hx
    simp only [rst] at hx
    split at hx
    · rcases List.mem_append.1 hx with hx | hx
      · exact E_good r none hr (fun q h => by cases h) x hx
      · exact Cl_good _ _ _ hs.good (fun q h => by cases h) (lo_good r none hr (fun q h => by cases h)) x hx
    · cases r with
      | nil => simp at hx
      | cons s2 r2 =>
        have hs2 := hr s2 List.mem_cons_self
        have hr2 : ∀ s ∈ r2, Bp (ptOf s) := fun x hx => hr x (List.mem_cons_of_mem _ hx)
        simp only at hx
        split at hx
        · rcases List.mem_append.1 hx with hx | hx
          · exact E_good r2 none hr2 (fun q h => by cases h) x hx
          · exact Cl_good _ _ _ hs2.good (fun q h => by injection h with h; exact h ▸ hs) (lo_good r2 none hr2 (fun q h => by cases h)) x hx
        · rcases List.mem_cons.1 hx with rfl | hx
          · exact hs2.good
          · rcases List.mem_append.1 hx with hx | hx
            · exact E_good r2 _ hr2 (fun q h => by injection h with h; exact h ▸ hs2) x hx
            · exact Cl_good _ _ _ (mid_good hs hs2) (fun q h => by injection h with h; exact h ▸ hs) (lo_good r2 _ hr2 (fun q h => by injection h with h; exact h ▸ hs2)) x hx
theorem Cl_end (fo L : Option Pt) (n0 : Pt) : ∃ l, Cl fo L n0 = l ++ [(true, n0)] := by
  cases fo with
  | none => exact ⟨[], by simp [Cl]⟩
  | some f => cases L with
    | none => exact ⟨[(false, f)], rfl⟩
    | some o => exact ⟨[(true, mid o f), (false, f)], rfl⟩
theorem rst_end {c : List S65} (hc : Ok c) : ∃ l, rst c = l ++ [(true, stp c)] := by
  cases c with
  | nil => exact absurd rfl hc.ne
  | cons s r =>
    simp only [rst, stp]
    split
    · obtain ⟨l, hl⟩ := Cl_end none (lo' r none) (ptOf s)
      exact ⟨E r none ++ l, by rw [hl, List.append_assoc]⟩
    · cases r with
      | nil => exact absurd (hc.one s rfl) (by assumption)
      | cons s2 r2 =>
        simp only
        split
        · obtain ⟨l, hl⟩ := Cl_end (some (ptOf s)) (lo' r2 none) (ptOf s2)
          exact ⟨E r2 none ++ l, by rw [hl, List.append_assoc]⟩
        · obtain ⟨l, hl⟩ := Cl_end (some (ptOf s)) (lo' r2 (some (ptOf s2))) (mid (ptOf s) (ptOf s2))
          exact ⟨(false, ptOf s2) :: (E r2 (some (ptOf s2)) ++ l), by rw [hl]; simp⟩
theorem ne_is (p q : Pt) : (!(FloatKind.f32.format.order p.1 q.1 == some .eq) || (!(FloatKind.f32.format.order p.2 q.2 == some .eq))) = !(same p q) := by
  unfold same weq
  rw [Bool.not_and]
theorem rd_last (out : List (List S129)) (cur : List S129) : rd_L9 (out ++ [cur]) (out.length : Int) = cur := by
  unfold rd_L9
  rw [Int.toNat_natCast, List.getD_eq_getElem?_getD, List.getElem?_append_right (Nat.le_refl _), Nat.sub_self]
  rfl
theorem wlast (out : List (List S129)) (cur : List S129) (h : out.length < 900000) : wrap64 (((out ++ [cur]).length : Int) - 1) = (out.length : Int) := by
  rw [List.length_append, List.length_singleton, w64 _ (by omega)]
  omega
theorem set_last (out : List (List S129)) (cur y : List S129) : (out ++ [cur]).set ((out.length : Int).toNat) y = out ++ [y] := by
  rw [Int.toNat_natCast, List.set_append_right _ _ (Nat.le_refl _), Nat.sub_self]
  rfl
theorem cv0 (p : Pt) : (cv (seg0 p)).f0 = 0 := w64 0 (by omega)
theorem cv1 (p : Pt) : (cv (seg1 p)).f0 = 1 := w64 1 (by omega)
theorem cv2 (o p : Pt) : (cv (seg2 o p)).f0 = 2 := w64 2 (by omega)
theorem po_line (out : List (List S129)) (cur : List S129) (l : List S127) (n : Int) (i : Nat) (a b p : Pt) (t : List S127) (R : List (List S129) × Bool) (hd : l.drop i = cv (seg1 p) :: t) (hn : n = (l.length : Int)) (hi : i < 900000) (ho : out.length < 900000) (hcl : cur.length < 900000) (ha : Gp a) (hp : Gp p)
    (h : Ev (fun k => spec_PiecesOf.l0 k (out ++ [cur ++ (if same a p = true then [] else [lineP a p])]) l n ((i + 1 : Nat) : Int) p.1 p.2 b.1 b.2) R) :
    Ev (fun k => spec_PiecesOf.l0 k (out ++ [cur]) l n (i : Int) a.1 a.2 b.1 b.2) R := by
  obtain ⟨_, hlt, _⟩ := drop_head hd
  have hrd : rd_T127 l (i : Int) = cv (seg1 p) := getD_drop z127 hd
  have hw := wsucc i (by omega)
  refine Ev.step (f := fun k => spec_PiecesOf.j2 k (out ++ [cur]) l n (i : Int) false a.1 a.2 b.1 b.2 1 p.1 0 0 p.2 0 0 p.1 p.2 0 0) (fun k => ?_) ?_
  · rw [spec_PiecesOf.l0, if_pos (by omega), if_pos (by omega), if_pos (by omega), hrd, if_neg (by rw [cv1]; decide), if_neg (by simp; omega), cv1]
    rfl
  cases hs : same a p with
  | true =>
    rw [hs, if_pos rfl, List.append_nil] at h
    refine Ev.step (fun k => ?_) h
    rw [spec_PiecesOf.j2, if_neg (by simp), if_pos rfl, ne_is p a, if_neg (by rw [same_comm hp ha, hs]; simp), hw]
  | false =>
    rw [hs, if_neg (by simp)] at h
    refine Ev.step (fun k => ?_) h
    rw [spec_PiecesOf.j2, if_neg (by simp), if_pos rfl, ne_is p a, if_pos (by rw [same_comm hp ha, hs]; rfl), wlast out cur ho, if_pos (by omega), if_pos (by simp; omega), rd_last, if_pos (by omega), set_last, hw]
    rfl
theorem po_curve (out : List (List S129)) (cur : List S129) (l : List S127) (n : Int) (i : Nat) (a b o p : Pt) (t : List S127) (R : List (List S129) × Bool) (hd : l.drop i = cv (seg2 o p) :: t) (hn : n = (l.length : Int)) (hi : i < 900000) (ho : out.length < 900000) (hcl : cur.length < 900000)
    (h : Ev (fun k => spec_PiecesOf.l0 k (out ++ [cur ++ [curveP a o p]]) l n ((i + 1 : Nat) : Int) p.1 p.2 b.1 b.2) R) :
    Ev (fun k => spec_PiecesOf.l0 k (out ++ [cur]) l n (i : Int) a.1 a.2 b.1 b.2) R := by
  obtain ⟨_, hlt, _⟩ := drop_head hd
  have hrd : rd_T127 l (i : Int) = cv (seg2 o p) := getD_drop z127 hd
  have hw := wsucc i (by omega)
  refine Ev.step (f := fun k => spec_PiecesOf.j2 k (out ++ [cur]) l n (i : Int) false a.1 a.2 b.1 b.2 2 o.1 p.1 0 o.2 p.2 0 o.1 o.2 p.1 p.2) (fun k => ?_) ?_
  · rw [spec_PiecesOf.l0, if_pos (by omega), if_pos (by omega), if_pos (by omega), hrd, if_neg (by rw [cv2]; decide), if_neg (by simp; omega), cv2]
    rfl
  refine Ev.step (fun k => ?_) h
  rw [spec_PiecesOf.j2, if_neg (by simp), if_neg (by decide), wlast out cur ho, if_pos (by omega), if_pos (by simp; omega), rd_last, if_pos (by omega), set_last, hw]
  rfl
theorem po_nodes (out : List (List S129)) (l : List S127) (n : Int) (b : Pt) (post : List S127) (R : List (List S129) × Bool) (hn : n = (l.length : Int)) (ho : out.length < 900000) (ns : List Nd) (a : Pt) :
    ∀ (cur : List S129) (i : Nat) (_ : Gn ns) (_ : Gp a) (_ : l.drop i = (Sg ns).map cv ++ post) (_ : i + ns.length < 900000) (_ : cur.length + ns.length < 900000)
    (_ : Ev (fun k => spec_PiecesOf.l0 k (out ++ [cur ++ P ns a]) l n ((i + (Sg ns).length : Nat) : Int) (La ns a).1 (La ns a).2 b.1 b.2) R),
    Ev (fun k => spec_PiecesOf.l0 k (out ++ [cur]) l n (i : Int) a.1 a.2 b.1 b.2) R := by
  induction ns, a using P.induct with
  | case1 a => intro cur i hg ha hd hi hc h; simpa [P, Sg, La] using h
  | case3 o a => intro cur i hg ha hd hi hc h; simpa [P, Sg, La] using h
  | case2 p r a ih =>
    intro cur i hg ha hd hi hc h
    simp only [List.length_cons] at hi hc
    have hp : Gp p := hg (true, p) List.mem_cons_self
    have hd' : l.drop i = cv (seg1 p) :: ((Sg r).map cv ++ post) := hd
    have hlen : (if same a p = true then [] else [lineP a p]).length ≤ 1 := by split <;> simp
    refine po_line out cur l n i a b p _ R hd' hn (by omega) ho (by omega) ha hp ?_
    refine ih (cur ++ _) (i + 1) (fun x hx => hg x (List.mem_cons_of_mem _ hx)) hp (drop_head hd').2.2 (by omega) (by rw [List.length_append]; omega) ?_
    have e : i + 1 + (Sg r).length = i + ((Sg r).length + 1) := by omega
    rw [e, List.append_assoc]
    exact h
  | case4 o q p r a ih =>
    intro cur i hg ha hd hi hc h
    simp only [List.length_cons] at hi hc
    have hp : Gp p := hg (q, p) (List.mem_cons_of_mem _ List.mem_cons_self)
    have hd' : l.drop i = cv (seg2 o p) :: ((Sg r).map cv ++ post) := hd
    refine po_curve out cur l n i a b o p _ R hd' hn (by omega) ho (by omega) ?_
    refine ih (cur ++ [curveP a o p]) (i + 1) (fun x hx => hg x (List.mem_cons_of_mem _ (List.mem_cons_of_mem _ hx))) hp (drop_head hd').2.2 (by omega) (by rw [List.length_append, List.length_singleton]; omega) ?_
    have e : i + 1 + (Sg r).length = i + ((Sg r).length + 1) := by omega
    rw [e, List.append_assoc]
    exact h
/-- The pieces of a contour. -/
def pcs (c : List S65) : List S129 := P (rst c) (stp c)
theorem po_all (l : List S127) (n : Int) (hn : n = (l.length : Int)) : ∀ (all : List (List S65)) (_ : ∀ c ∈ all, Ok c) (out : List (List S129)) (i : Nat) (a b : Pt) (_ : same a b = true) (_ : l.drop i = (all.flatMap sgs).map cv) (_ : i ≤ l.length) (_ : i + 60 * all.length < 900000) (_ : out.length + all.length < 900000),
    Ev (fun k => spec_PiecesOf.l0 k out l n (i : Int) a.1 a.2 b.1 b.2) (out ++ all.map pcs, true)
  | [], _, out, i, a, b, hab, hd, hip, hi, ho => by
    have : l.length ≤ i := by simpa using hd
    refine Ev.step (f := fun _ => some (out, true)) (fun k => ?_) (by simpa using Ev.now _)
    rw [spec_PiecesOf.l0, if_neg (by omega)]
    have h2 : (FloatKind.f32.format.order a.1 b.1 == some .eq && (FloatKind.f32.format.order a.2 b.2 == some .eq)) = true := hab
    rw [h2]
  | c :: r, hok, out, i, a, b, hab, hd, hip, hi, ho => by
    have hc := hok c List.mem_cons_self
    simp only [List.length_cons] at hi ho
    have hcl := hc.len
    have hrl := rst_len c
    have hd' : l.drop i = cv (seg0 (stp c)) :: ((Sg (rst c)).map cv ++ (r.flatMap sgs).map cv) := by rw [hd, List.flatMap_cons, List.map_append]; rfl
    obtain ⟨_, hlt, hd2⟩ := drop_head hd'
    have hrd : rd_T127 l (i : Int) = cv (seg0 (stp c)) := getD_drop z127 hd'
    have hw := wsucc i (by omega)
    obtain ⟨z, hz⟩ := rst_end hc
    have hla : La (rst c) (stp c) = stp c := by rw [hz]; exact La_snoc _ _ _
    have hsl := Sg_len (rst c)
    have hlen2 : (l.drop (i + 1)).length = (Sg (rst c)).length + ((r.flatMap sgs).map cv).length := by rw [hd2, List.length_append, List.length_map]
    rw [List.length_drop] at hlen2
    have ih := po_all l n hn r (fun x hx => hok x (List.mem_cons_of_mem _ hx)) (out ++ [pcs c]) (i + 1 + (Sg (rst c)).length) (stp c) (stp c) (same_refl (stp_good hc))
      (by rw [← List.drop_drop, hd2]; exact List.drop_left' (by rw [List.length_map])) (by omega) (by omega) (by rw [List.length_append, List.length_singleton]; omega)
    have hmain := po_nodes out l n (stp c) ((r.flatMap sgs).map cv) (out ++ (c :: r).map pcs, true) hn (by omega) (rst c) (stp c) [] (i + 1) (rst_good hc) (stp_good hc) hd2 (by omega) (by rw [List.length_nil]; omega)
      (by rw [hla, List.nil_append]; simpa [pcs] using ih)
    refine Ev.step (f := fun k => spec_PiecesOf.j1 k out l n (i : Int) false (stp c).1 (stp c).2) (fun k => ?_) (Ev.step (fun k => ?_) hmain)
    · rw [spec_PiecesOf.l0, if_pos (by omega), if_pos (by omega), if_pos (by omega), hrd, if_pos (cv0 _), ne_is a b, hab]
      split <;> rfl
    · rw [spec_PiecesOf.j1, if_neg (by simp), if_pos (by omega), hw]
theorem pieces_is (all : List (List S65)) (hok : ∀ c ∈ all, Ok c) (hl : all.length ≤ 5) : Ev (fun k => spec_PiecesOf.f k ((all.flatMap sgs).map cv)) (all.map pcs, true) := by
  have hz : Gp ((0, 0) : Pt) := ⟨⟨0, ⟨false, 0, -149, by decide, by unfold sgn; simp⟩⟩, ⟨0, ⟨false, 0, -149, by decide, by unfold sgn; simp⟩⟩⟩
  have := po_all ((all.flatMap sgs).map cv) _ rfl all hok [] 0 (0, 0) (0, 0) (same_refl hz) (by simp) (by omega) (by omega) (by simp; omega)
  simpa [spec_PiecesOf.f] using this

/-! ### the reference's pieces -/
def to141 (x : Nd) : S141 := ⟨x.1, ⟨x.2.1, x.2.2⟩⟩
def offO (q : S65) : Option Pt := if q.f0 = true then none else some (ptOf q)
def pidx (i n : Nat) : Nat := if i = 0 then n - 1 else i - 1
theorem tm_is (i n : Nat) (h : i < n) (hn : n < 900000) : Int.tmod (wrap64 ((wrap64 ((i : Int) + (n : Int))) - 1)) (n : Int) = (pidx i n : Int) ∧ pidx i n < n := by
  rw [w64 ((i : Int) + n) (by omega), w64 _ (by omega), Int.tmod_eq_emod_of_nonneg (by omega)]
  unfold pidx
  split
  · rename_i h0
    subst h0
    refine ⟨?_, by omega⟩
    rw [Int.emod_eq_of_lt (by omega) (by omega)]
    omega
  · refine ⟨?_, by omega⟩
    rw [show (i : Int) + n - 1 = ((i - 1 : Nat) : Int) + n by omega, Int.add_emod_right, Int.emod_eq_of_lt (by omega) (by omega)]
def tail_ (k : Nat) (x3 : List S141) : Option (List S129) :=
  (spec_point.f k x3).bind fun t257 => (if t257 < 0 then (some ([] : List (S129))) else (if 0 ≤ t257 then (if t257 ≤ (x3.length : Int) then (if 0 ≤ (wrap64 (t257 + 1)) then (if (wrap64 (t257 + 1)) ≤ (x3.length : Int) then ((some (x3.take ((wrap64 (t257 + 1)) : Int).toNat : List (S141))).bind fun y262 => (if 0 < (y262.length : Int) then (if x3.length + y262.length < 11728124029610 then (spec_ContourRef.l1 k ([] : List (S129)) ((x3.drop (t257 : Int).toNat) ++ y262) 1) else (none)) else (none))) else (none)) else (none)) else (none)) else (none)))
theorem cr_l0 (c : List S65) (hc : Ok c) (R : List S129) : ∀ (t : List S65) (x3 : List S141) (i : Nat) (prev : Option Pt) (_ : c.drop i = t) (_ : i ≤ c.length) (_ : t ≠ [] → prev = offO (c.getD (pidx i c.length) z65)) (_ : x3.length + 2 * t.length < 900000) (_ : Ev (fun k => tail_ k (x3 ++ (E t prev).map to141)) R),
    Ev (fun k => spec_ContourRef.l0 k c x3 c (c.length : Int) (i : Int)) R
  | [], x3, i, prev, hd, hi, hp, hx, h => by
    have : c.length ≤ i := by simpa using hd
    simp only [E, List.map_nil, List.append_nil] at h
    refine Ev.step (fun k => ?_) h
    rw [spec_ContourRef.l0, if_neg (by omega)]
    rfl
  | s :: t, x3, i, prev, hd, hi, hp, hx, h => by
    obtain ⟨_, hlt, hd2⟩ := drop_head hd
    have hcl := hc.len
    have hrd : rd_T65 c (i : Int) = s := getD_drop z65 hd
    have hmem : s ∈ c := List.mem_of_mem_drop (hd ▸ List.mem_cons_self)
    have hs := hc.pts s hmem
    simp only [List.length_cons] at hx
    have hprev := hp (by simp)
    obtain ⟨htm, hpl⟩ := tm_is i c.length hlt (by omega)
    have hq : rd_T65 c (pidx i c.length : Int) = c.getD (pidx i c.length) z65 := by unfold rd_T65; rw [Int.toNat_natCast]
    generalize hqq : c.getD (pidx i c.length) z65 = q at hprev hq
    have hqm : q ∈ c := by
      rw [← hqq, List.getD_eq_getElem?_getD, List.getElem?_eq_getElem hpl]
      exact List.getElem_mem hpl
    have hqp := hc.pts q hqm
    have hnext : t ≠ [] → (if s.f0 = true then none else some (ptOf s)) = offO (c.getD (pidx (i + 1) c.length) z65) := fun _ => by
      have : pidx (i + 1) c.length = i := by unfold pidx; rw [if_neg (by omega)]; omega
      rw [this, getD_drop z65 hd]
      rfl
    by_cases hf : s.f0 = true
    · rw [if_pos hf] at hnext
      simp only [E, if_pos hf, List.map_cons] at h
      have ih := cr_l0 c hc R t (x3 ++ [to141 (true, ptOf s)]) (i + 1) none hd2 (by omega) hnext (by rw [List.length_append, List.length_singleton]; omega) (by simpa using h)
      refine Ev.step (f := fun k => spec_ContourRef.j1 k c x3 (i : Int) (c.length : Int) c (c.length : Int) (i : Int) false s.f0 s.f1 s.f2 (fw s.f1) (fw s.f2)) (fun k => ?_) (Ev.step (fun k => ?_) ih)
      · rw [spec_ContourRef.l0, if_pos (by omega), if_pos (by omega), if_pos (by omega), hrd, if_pos hf]
        rfl
      · rw [spec_ContourRef.j1, if_neg (by simp), if_pos (by omega), wsucc i (by omega), hf]
        rfl
    · rw [if_neg hf] at hnext
      have hf' : s.f0 = false := Bool.eq_false_iff.2 hf
      refine Ev.step (f := fun k => spec_ContourRef.j1 k c x3 (i : Int) (c.length : Int) c (c.length : Int) (i : Int) (!q.f0) s.f0 s.f1 s.f2 (fw s.f1) (fw s.f2)) (fun k => ?_) ?_
      · rw [spec_ContourRef.l0, if_pos (by omega), if_pos (by omega), if_pos (by omega), hrd, if_neg hf, if_neg (by omega), htm, if_pos (by omega), if_pos (by omega), hq]
        rfl
      by_cases hq0 : q.f0 = true
      · have hpn : prev = none := by rw [hprev]; unfold offO; rw [if_pos hq0]
        subst hpn
        simp only [E, if_neg hf, List.nil_append, List.map_cons] at h
        have ih := cr_l0 c hc R t (x3 ++ [to141 (false, ptOf s)]) (i + 1) (some (ptOf s)) hd2 (by omega) hnext (by rw [List.length_append, List.length_singleton]; omega) (by simpa using h)
        refine Ev.step (fun k => ?_) ih
        rw [spec_ContourRef.j1, hq0, if_neg (by simp), if_pos (by omega), wsucc i (by omega), hf']
        rfl
      · have hpn : prev = some (ptOf q) := by rw [hprev]; unfold offO; rw [if_neg hq0]
        subst hpn
        simp only [E, if_neg hf, List.cons_append, List.nil_append, List.map_cons] at h
        have ih := cr_l0 c hc R t (x3 ++ [to141 (true, mid (ptOf q) (ptOf s))] ++ [to141 (false, ptOf s)]) (i + 1) (some (ptOf s)) hd2 (by omega) hnext (by simp only [List.length_append, List.length_singleton]; omega) (by simpa using h)
        refine Ev.step (fun k => ?_) ih
        rw [spec_ContourRef.j1, Bool.eq_false_iff.2 hq0, if_pos (by rfl), if_neg (by omega), htm, if_pos (by omega), if_pos (by omega), hq]
        show ((spec_half.f (ptOf s).1 (ptOf s).2 (ptOf q).1 (ptOf q).2).bind _) = _
        rw [half_is hs hqp, Option.bind_some, if_pos (by omega), Option.bind_some, if_pos (by rw [List.length_append, List.length_singleton]; omega), wsucc i (by omega), mid_comm, hf']
        rfl
theorem cr_l1 (ns : List Nd) (hl : ns.length < 900000) (t : List Nd) (a : Pt) : ∀ (q : Bool) (x2 : List S129) (i : Nat) (_ : ns.drop i = (q, a) :: t) (_ : Wl t) (_ : x2.length + t.length < 900000),
    Ev (fun k => spec_ContourRef.l1 k x2 (ns.map to141) ((i + 1 : Nat) : Int)) (x2 ++ P t a) := by
  have rdn : ∀ (i : Nat) (x : Nd) (t : List Nd), ns.drop i = x :: t → rd_T141 (ns.map to141) (i : Int) = to141 x := by
    intro i x t h
    unfold rd_T141
    rw [Int.toNat_natCast]
    exact getD_drop z141 (by rw [← List.map_drop, h, List.map_cons])
  have hm : (ns.map to141).length = ns.length := List.length_map _
  induction t, a using P.induct with
  | case1 a =>
    intro q x2 i hd hw hx
    obtain ⟨_, hlt, hd2⟩ := drop_head hd
    have : ns.length ≤ i + 1 := by simpa using hd2
    refine Ev.step (f := fun _ => some x2) (fun k => ?_) (by simpa [P] using Ev.now x2)
    rw [spec_ContourRef.l1, if_neg (by rw [hm]; omega)]
  | case3 o a => intro q x2 i hd hw hx; exact absurd hw (by simp [Wl])
  | case2 b r a ih =>
    intro q x2 i hd hw hx
    simp only [List.length_cons] at hx
    obtain ⟨_, hlt, hd2⟩ := drop_head hd
    obtain ⟨_, hlt2, _⟩ := drop_head hd2
    have r1 := rdn i _ _ hd
    have r2 := rdn (i + 1) _ _ hd2
    have hwp : wrap64 (((i + 1 : Nat) : Int) - 1) = (i : Int) := by rw [w64 _ (by omega)]; omega
    cases hs : same a b with
    | true =>
      have := ih true x2 (i + 1) hd2 hw (by omega)
      refine Ev.step (fun k => ?_) (by simpa [P, hs] using this)
      rw [spec_ContourRef.l1, if_pos (by rw [hm]; omega), hwp, if_pos (by omega), if_pos (by rw [hm]; omega), if_pos (by omega), r2, if_pos (show (to141 (true, b)).f0 = true from rfl), r1]
      rw [show ((to141 (q, a)).f1.f0) = a.1 from rfl, show ((to141 (q, a)).f1.f1) = a.2 from rfl, show ((to141 (true, b)).f1.f0) = b.1 from rfl, show ((to141 (true, b)).f1.f1) = b.2 from rfl, ne_is a b, hs, if_neg (by simp), wsucc (i + 1) (by omega)]
      rfl
    | false =>
      have := ih true (x2 ++ [lineP a b]) (i + 1) hd2 hw (by rw [List.length_append, List.length_singleton]; omega)
      refine Ev.step (fun k => ?_) (by simpa [P, hs] using this)
      rw [spec_ContourRef.l1, if_pos (by rw [hm]; omega), hwp, if_pos (by omega), if_pos (by rw [hm]; omega), if_pos (by omega), r2, if_pos (show (to141 (true, b)).f0 = true from rfl), r1]
      rw [show ((to141 (q, a)).f1.f0) = a.1 from rfl, show ((to141 (q, a)).f1.f1) = a.2 from rfl, show ((to141 (true, b)).f1.f0) = b.1 from rfl, show ((to141 (true, b)).f1.f1) = b.2 from rfl, ne_is a b, hs, if_pos (by rfl), if_pos (by omega), wsucc (i + 1) (by omega)]
      rfl
  | case4 o q2 b r a ih =>
    intro q x2 i hd hw hx
    simp only [List.length_cons] at hx
    obtain ⟨_, hlt, hd2⟩ := drop_head hd
    obtain ⟨_, hlt2, hd3⟩ := drop_head hd2
    obtain ⟨_, hlt3, _⟩ := drop_head hd3
    have r1 := rdn i _ _ hd
    have r2 := rdn (i + 1) _ _ hd2
    have r3 := rdn (i + 1 + 1) _ _ hd3
    have hwp : wrap64 (((i + 1 : Nat) : Int) - 1) = (i : Int) := by rw [w64 _ (by omega)]; omega
    have := ih q2 (x2 ++ [curveP a o b]) (i + 1 + 1) hd3 hw (by rw [List.length_append, List.length_singleton]; omega)
    refine Ev.step (fun k => ?_) (by simpa [P] using this)
    rw [spec_ContourRef.l1, if_pos (by rw [hm]; omega), hwp, if_pos (by omega), if_pos (by rw [hm]; omega), if_pos (by omega), r2, if_neg (by simp [to141]), wsucc (i + 1) (by omega), if_pos (by omega), if_pos (by rw [hm]; omega), if_pos (by omega), r1, r3, wsucc (i + 1 + 1) (by omega)]
    rfl
theorem idx0 (m : Pt) (T : List Nd) : Ev (fun k => spec_point.f k (((true, m) :: T).map to141)) 0 := by
  refine Ev.step (f := fun _ => some 0) (fun k => ?_) (Ev.now _)
  simp only [spec_point.f, spec_point.l0]
  rw [if_pos (by simp), if_pos (by omega), if_pos (by simp)]
  rfl
theorem idx1 (f n0 : Pt) (T : List Nd) : Ev (fun k => spec_point.f k (((false, f) :: (true, n0) :: T).map to141)) 1 := by
  refine Ev.step (f := fun k => spec_point.l0 k (((false, f) :: (true, n0) :: T).map to141) ((((false, f) :: (true, n0) :: T).map to141).length : Int) 1) (fun k => ?_) (Ev.step (f := fun _ => some 1) (fun k => ?_) (Ev.now _))
  · simp only [spec_point.f, spec_point.l0]
    rw [if_pos (by simp; omega), if_pos (by omega), if_pos (by simp; omega), w64 _ (by omega)]
    rfl
  · simp only [spec_point.l0]
    rw [if_pos (by simp; omega), if_pos (by omega), if_pos (by simp; omega)]
    rfl
theorem tail_on (m : Pt) (T : List Nd) (h : T.length < 100000) : Ev (fun k => tail_ k (((true, m) :: T).map to141)) (P (T ++ [(true, m)]) m) := by
  have hl : (((true, m) :: T).map to141).length = T.length + 1 := by rw [List.length_map, List.length_cons]
  have e1 : wrap64 ((0 : Int) + 1) = 1 := w64 _ (by omega)
  have := cr_l1 ((true, m) :: (T ++ [(true, m)])) (by simp; omega) (T ++ [(true, m)]) m true [] 0 rfl (Wl_snoc _ _ m) (by simp; omega)
  unfold tail_
  refine Ev.bind (idx0 m T) (Ev.congr (fun k => ?_) this)
  rw [if_neg (by omega), if_pos (by omega), if_pos (by omega), e1, if_pos (by omega), if_pos (by omega), Option.bind_some, if_pos (by rw [List.length_take, hl]; omega), if_pos (by rw [List.length_take, hl]; omega)]
  simp
theorem tail_off (f n0 : Pt) (T : List Nd) (h : T.length < 100000) : Ev (fun k => tail_ k (((false, f) :: (true, n0) :: T).map to141)) (P (T ++ [(false, f), (true, n0)]) n0) := by
  have hl : (((false, f) :: (true, n0) :: T).map to141).length = T.length + 2 := by rw [List.length_map, List.length_cons, List.length_cons]
  have e1 : wrap64 ((1 : Int) + 1) = 2 := w64 _ (by omega)
  have hw : Wl (T ++ [(false, f), (true, n0)]) := by
    have := Wl_snoc n0 (T ++ [(false, f)]) f
    simpa using this
  have := cr_l1 ((true, n0) :: (T ++ [(false, f), (true, n0)])) (by simp; omega) (T ++ [(false, f), (true, n0)]) n0 true [] 0 rfl hw (by simp; omega)
  unfold tail_
  refine Ev.bind (idx1 f n0 T) (Ev.congr (fun k => ?_) this)
  rw [if_neg (by omega), if_pos (by omega), if_pos (by omega), e1, if_pos (by omega), if_pos (by omega), Option.bind_some, if_pos (by rw [List.length_take, hl]; omega), if_pos (by rw [List.length_take, hl]; omega)]
  simp
theorem lo_last : ∀ (r : List S65) (s : S65) (p : Option Pt), lo' (s :: r) p = offO ((s :: r).getD r.length z65)
  | [], s, p => rfl
  | s2 :: r, s, p => by
    have := lo_last r s2 (if s.f0 = true then none else some (ptOf s))
    rw [lo', this]
    rfl
/-- The reference's pieces are the package's, but for where they begin. -/
theorem ref_is (c : List S65) (hc : Ok c) : ∃ R, Ev (fun k => spec_ContourRef.f k c) R ∧ (R = pcs c ∨ ∃ A x, pcs c = A ++ [x] ∧ R = x :: A) := by
  have hne := hc.ne
  have hcl := hc.len
  have start : ∀ R, Ev (fun k => tail_ k ((E c (lo' c none)).map to141)) R → Ev (fun k => spec_ContourRef.f k c) R := by
    intro R h
    refine cr_l0 c hc R c [] 0 (lo' c none) rfl (by omega) (fun _ => ?_) (by simp; omega) (by simpa using h)
    cases c with
    | nil => exact absurd rfl hne
    | cons s r => rw [lo_last]; rfl
  cases c with
  | nil => exact absurd rfl hne
  | cons s r =>
    have hEl : ∀ p, (E r p).length < 1000 := fun p => by have := E_len r p; simp only [List.length_cons] at hcl; omega
    by_cases hf : s.f0 = true
    · refine ⟨_, start _ (by simp only [E, if_pos hf]; exact tail_on (ptOf s) (E r none) (by have := hEl none; omega)), .inl ?_⟩
      simp only [pcs, rst, stp, if_pos hf, Cl]
    · cases r with
      | nil => exact absurd (hc.one s rfl) hf
      | cons s2 r2 =>
        obtain ⟨T, n0, hE, hst, hrs, hTl⟩ : ∃ T n0, E (s2 :: r2) (some (ptOf s)) = (true, n0) :: T ∧ stp (s :: s2 :: r2) = n0 ∧ rst (s :: s2 :: r2) = T ++ Cl (some (ptOf s)) (lo' (s :: s2 :: r2) none) n0 ∧ T.length < 1000 := by
          by_cases h2 : s2.f0 = true
          · refine ⟨E r2 none, ptOf s2, by simp only [E, if_pos h2], by simp only [stp, if_neg hf, if_pos h2], by simp only [rst, if_neg hf, if_pos h2, lo'], ?_⟩
            have := E_len r2 none; simp only [List.length_cons] at hcl; omega
          · refine ⟨(false, ptOf s2) :: E r2 (some (ptOf s2)), mid (ptOf s) (ptOf s2), by simp only [E, if_neg h2]; rfl, by simp only [stp, if_neg hf, if_neg h2], by simp only [rst, if_neg hf, if_neg h2, lo', List.cons_append], ?_⟩
            have := E_len r2 (some (ptOf s2)); simp only [List.length_cons] at hcl ⊢; omega
        cases hL : lo' (s :: s2 :: r2) none with
        | none =>
          rw [hL] at hrs start
          refine ⟨_, start _ (by rw [E, if_neg hf, hE]; exact tail_off (ptOf s) n0 T (by omega)), .inl ?_⟩
          simp only [pcs, hrs, hst, Cl]
        | some o =>
          rw [hL] at hrs start
          refine ⟨_, start _ (by rw [E, if_neg hf, hE]; exact tail_on (mid o (ptOf s)) ((false, ptOf s) :: (true, n0) :: T) (by simp; omega)), .inr ⟨P (T ++ [(true, mid o (ptOf s))]) n0, curveP (mid o (ptOf s)) (ptOf s) n0, ?_, ?_⟩⟩
          · simp only [pcs, hrs, hst, Cl]
            rw [P_split]
            simp [P]
          · simp [P]

/-! ### the same pieces -/
def Gq (p : S129) : Prop := Gp (p.f1.f0, p.f1.f1) ∧ Gp (p.f2.f0, p.f2.f1) ∧ Gp (p.f3.f0, p.f3.f1)
theorem zero_good : Gp ((0, 0) : Pt) := ⟨⟨0, ⟨false, 0, -149, by decide, by unfold sgn; simp⟩⟩, ⟨0, ⟨false, 0, -149, by decide, by unfold sgn; simp⟩⟩⟩
theorem P_good (ns : List Nd) (a : Pt) : Gn ns → Gp a → ∀ p ∈ P ns a, Gq p := by
  induction ns, a using P.induct with
  | case1 a => intro _ _ p hp; simp [P] at hp
  | case3 o a => intro _ _ p hp; simp [P] at hp
  | case2 b r a ih =>
    intro hg ha p hp
    have hb : Gp b := hg (true, b) List.mem_cons_self
    simp only [P] at hp
    rcases List.mem_append.1 hp with hp | hp
    · split at hp
      · simp at hp
      · rw [List.mem_singleton.1 hp]
        exact ⟨ha, zero_good, hb⟩
    · exact ih (fun x hx => hg x (List.mem_cons_of_mem _ hx)) hb p hp
  | case4 o q b r a ih =>
    intro hg ha p hp
    have ho : Gp o := hg (false, o) List.mem_cons_self
    have hb : Gp b := hg (q, b) (List.mem_cons_of_mem _ List.mem_cons_self)
    simp only [P] at hp
    rcases List.mem_cons.1 hp with rfl | hp
    · exact ⟨ha, ho, hb⟩
    · exact ih (fun x hx => hg x (List.mem_cons_of_mem _ (List.mem_cons_of_mem _ hx))) hb p hp
def pne (p q : S129) : Bool := (!((p.f0) == (q.f0)) || ((!(FloatKind.f32.format.order (p.f1.f0) (q.f1.f0) == some .eq) || (!(FloatKind.f32.format.order (p.f1.f1) (q.f1.f1) == some .eq))) || ((!(FloatKind.f32.format.order (p.f2.f0) (q.f2.f0) == some .eq) || (!(FloatKind.f32.format.order (p.f2.f1) (q.f2.f1) == some .eq))) || ((!(FloatKind.f32.format.order (p.f3.f0) (q.f3.f0) == some .eq) || (!(FloatKind.f32.format.order (p.f3.f1) (q.f3.f1) == some .eq)))))))
theorem pne_refl {p : S129} (h : Gq p) : pne p p = false := by
  have h1 := weq_refl h.1.1
  have h2 := weq_refl h.1.2
  have h3 := weq_refl h.2.1.1
  have h4 := weq_refl h.2.1.2
  have h5 := weq_refl h.2.2.1
  have h6 := weq_refl h.2.2.2
  unfold weq at h1 h2 h3 h4 h5 h6
  unfold pne
  simp only at h1 h2 h3 h4 h5 h6
  rw [h1, h2, h3, h4, h5, h6]
  simp
theorem rd129 (l : List S129) (i : Nat) (x : S129) (t : List S129) (h : l.drop i = x :: t) : rd_T129 l (i : Int) = x := getD_drop z129 h
theorem eq_l0 (x y : List S129) (hl : x.length = y.length) (hb : x.length < 900000) : ∀ (t u : List S129) (i : Nat) (_ : x.drop i = t) (_ : y.drop i = u) (_ : i ≤ x.length),
    ∃ b, Ev (fun k => spec_Piece_41.l0 k x y (x.length : Int) (i : Int)) b ∧ (t = u → (∀ p ∈ t, Gq p) → b = true)
  | [], u, i, hd, hu, hi => by
    have : x.length ≤ i := by simpa using hd
    refine ⟨true, Ev.step (f := fun _ => some true) (fun k => ?_) (Ev.now _), fun _ _ => rfl⟩
    rw [spec_Piece_41.l0, if_neg (by omega)]
  | p :: t, [], i, hd, hu, hi => by
    have h1 := (drop_head hd).2.1
    have : y.length ≤ i := by simpa using hu
    omega
  | p :: t, q :: u, i, hd, hu, hi => by
    obtain ⟨_, hlt, hd2⟩ := drop_head hd
    obtain ⟨_, hlt2, hu2⟩ := drop_head hu
    have r1 := rd129 x i p t hd
    have r2 := rd129 y i q u hu
    obtain ⟨b, hb1, hb2⟩ := eq_l0 x y hl hb t u (i + 1) hd2 hu2 (by omega)
    cases hp : pne p q with
    | true =>
      refine ⟨false, Ev.step (f := fun _ => some false) (fun k => ?_) (Ev.now _), fun he hg => ?_⟩
      · rw [spec_Piece_41.l0, if_pos (by omega), if_pos (by omega), if_pos (by omega), if_pos (by omega), r1, r2]
        exact if_pos hp
      · injection he with h1 _
        subst h1
        rw [pne_refl (hg p List.mem_cons_self)] at hp
        cases hp
    | false =>
      refine ⟨b, Ev.step (fun k => ?_) hb1, fun he hg => ?_⟩
      · rw [spec_Piece_41.l0, if_pos (by omega), if_pos (by omega), if_pos (by omega), if_pos (by omega), r1, r2, wsucc i (by omega)]
        exact if_neg (show ¬ (pne p q = true) from fun h => by rw [hp] at h; cases h)
      · injection he with _ h2
        exact hb2 h2 (fun z hz => hg z (List.mem_cons_of_mem _ hz))
theorem eq_is (x y : List S129) (hl : x.length = y.length) (hb : x.length < 900000) : ∃ b, Ev (fun k => spec_Piece_41.f k x y) b ∧ (x = y → (∀ p ∈ x, Gq p) → b = true) := by
  obtain ⟨b, h1, h2⟩ := eq_l0 x y hl hb x y 0 rfl rfl (by omega)
  exact ⟨b, Ev.congr (fun k => by unfold spec_Piece_41.f; exact if_pos (by omega)) h1, h2⟩
theorem clone_is (l : List S129) (h : l.length < 900000) : spec_Piece_42.f l = some l := by
  unfold spec_Piece_42.f
  rw [Option.bind_some, if_pos (by simp; omega), List.nil_append]
theorem same_l0 (a b : List S129) (K : Nat) (hK : K < a.length) (hrot : a.drop K ++ a.take K = b) (hg : ∀ p ∈ b, Gq p) (hl : a.length < 900000) : ∀ (d i : Nat) (_ : i + d = K),
    Ev (fun k => spec_PiecesSame.l0 k a b (a.length : Int) (i : Int)) true
  | d, i, hi => by
    have hlb : b.length = a.length := by rw [← hrot]; simp; omega
    have hlr : (a.drop i ++ a.take i).length = b.length := by rw [hlb]; simp; omega
    obtain ⟨r, hr1, hr2⟩ := eq_is (a.drop i ++ a.take i) b hlr (by omega)
    have hclone := clone_is (a.drop i) (by rw [List.length_drop]; omega)
    have hlen : (a.drop i).length + (a.take i).length < 5026338869833 := by rw [List.length_drop, List.length_take]; omega
    refine Ev.step (f := fun k => (spec_Piece_41.f k (a.drop i ++ a.take i) b).bind fun t233 => (if t233 = true then (some true) else (spec_PiecesSame.l0 k a b (a.length : Int) ((i + 1 : Nat) : Int)))) (fun k => ?_) ?_
    · rw [spec_PiecesSame.l0, if_pos (by omega), if_pos (by omega), if_pos (by omega), Int.toNat_natCast, hclone, Option.bind_some, Option.bind_some, if_pos hlen, wsucc i (by omega)]
    · refine Ev.bind hr1 ?_
      cases r with
      | true => exact Ev.congr (f := fun _ => some true) (fun k => if_pos rfl) (Ev.now _)
      | false =>
        cases d with
        | zero =>
          have e : i = K := by omega
          subst e
          have := hr2 hrot (by rw [hrot]; exact hg)
          cases this
        | succ d => exact Ev.congr (fun k => if_neg (by simp)) (same_l0 a b K hK hrot hg hl d (i + 1) (by omega))
theorem same_is (a b : List S129) (hg : ∀ p ∈ b, Gq p) (hl : a.length < 900000) (h : b = a ∨ ∃ A x, a = A ++ [x] ∧ b = x :: A) : Ev (fun k => spec_PiecesSame.f k a b) true := by
  have hlb : a.length = b.length := by
    rcases h with rfl | ⟨A, x, rfl, rfl⟩
    · rfl
    · simp
  refine Ev.congr (f := fun k => spec_PiecesSame.l0 k a b (a.length : Int) 0) (fun k => by unfold spec_PiecesSame.f; exact if_pos (by omega)) ?_
  rcases Nat.eq_zero_or_pos a.length with h0 | h0
  · refine Ev.step (f := fun _ => some true) (fun k => ?_) (Ev.now _)
    rw [spec_PiecesSame.l0, if_neg (by omega), h0]
    rfl
  · rcases h with rfl | ⟨A, x, rfl, rfl⟩
    · exact same_l0 b b 0 h0 (by simp) hg hl 0 0 rfl
    · exact same_l0 (A ++ [x]) (x :: A) A.length (by simp) (by simp) hg hl A.length 0 (by omega)
/-! ### the law's contours -/
theorem quarter (x : Int) : (wrap64 (Int.tdiv (wrap64 (IntKind.i16.wrap x)) 4)).natAbs ≤ 8192 := by
  have h1 : -32768 ≤ IntKind.i16.wrap x ∧ IntKind.i16.wrap x ≤ 32767 := by simp only [IntKind.wrap, IntKind.bits, IntKind.signed]; simp; omega
  generalize IntKind.i16.wrap x = y at h1
  rw [w64 y (by omega)]
  have h3 : (Int.tdiv y 4).natAbs = y.natAbs / 4 := Int.natAbs_tdiv y 4
  have h2 : -8192 ≤ Int.tdiv y 4 ∧ Int.tdiv y 4 ≤ 8192 := by omega
  rw [w64 _ (by omega)]
  omega
def cs (p : S65) : S65 := ⟨p.f0, wrap64 (Int.tdiv (wrap64 (IntKind.i16.wrap p.f1)) 4), wrap64 (Int.tdiv (wrap64 (IntKind.i16.wrap p.f2)) 4)⟩
def Okm (c : List S65) : Prop := (∀ s ∈ c, s.f1.natAbs ≤ 8192 ∧ s.f2.natAbs ≤ 8192) ∧ c.length ≤ 12
def Post (r : List (List S65)) : Prop := (∀ c ∈ r, Ok c) ∧ r.length ≤ 5
theorem spots_j4 (x0 x2 : List (List S65)) (i : Nat) (c : List S65) (hc : Okm c) (h1 : ∀ s, c = [s] → s.f0 = true) (hx : ∀ c ∈ x2, Ok c) (hl : x2.length ≤ i) (hi : i < 5)
    (h : ∀ x2' : List (List S65), (∀ c ∈ x2', Ok c) → x2'.length ≤ i + 1 → EvP (fun k => laws_someSpots.l0 k x0 x2' ((i + 1 : Nat) : Int)) Post) :
    EvP (fun k => laws_someSpots.j4 k x0 x2 (i : Int) c) Post := by
  by_cases h0 : (c.length : Int) > 0
  · refine EvP.step (fun k => ?_) (h (x2 ++ [c]) (fun z hz => ?_) (by rw [List.length_append, List.length_singleton]; omega))
    · rw [laws_someSpots.j4, if_pos h0, if_pos (by omega), wsucc i (by omega)]
    · rcases List.mem_append.1 hz with hz | hz
      · exact hx z hz
      · rw [List.mem_singleton.1 hz]
        exact ⟨fun e => by rw [e] at h0; simp at h0, h1, hc.1, hc.2⟩
  · refine EvP.step (fun k => ?_) (h x2 hx (by omega))
    rw [laws_someSpots.j4, if_neg h0, wsucc i (by omega)]
theorem spots_out (x0 x2 : List (List S65)) (i : Nat) (c : List S65) (m : Int) (hc : Okm c) (hx : ∀ c ∈ x2, Ok c) (hl : x2.length ≤ i) (hi : i < 5)
    (h : ∀ x2' : List (List S65), (∀ c ∈ x2', Ok c) → x2'.length ≤ i + 1 → EvP (fun k => laws_someSpots.l0 k x0 x2' ((i + 1 : Nat) : Int)) Post) :
    EvP (fun k => laws_someSpots.j3 k x0 x2 (i : Int) c m false) Post := by
  by_cases h1 : (c.length : Int) = 1
  · obtain ⟨s, rfl⟩ : ∃ s, c = [s] := List.length_eq_one_iff.1 (by omega)
    refine EvP.step (fun k => ?_) (spots_j4 x0 x2 i [⟨true, s.f1, s.f2⟩] ⟨fun z hz => ?_, by simp⟩ (fun z hz => by injection hz with h1 h2; rw [← h1]) hx hl hi h)
    · rw [laws_someSpots.j3, if_neg (by simp), if_pos (by simp), if_pos (by simp)]
      rfl
    · rw [List.mem_singleton.1 hz]
      exact hc.1 s List.mem_cons_self
  · refine EvP.step (fun k => ?_) (spots_j4 x0 x2 i c hc (fun s hs => by rw [hs] at h1; simp at h1) hx hl hi h)
    rw [laws_someSpots.j3, if_neg (by simp), if_neg h1]
theorem spots_l1 (x0 x2 : List (List S65)) (i : Nat) (hx : ∀ c ∈ x2, Ok c) (hl : x2.length ≤ i) (hi : i < 5) (hi0 : i < x0.length)
    (h : ∀ x2' : List (List S65), (∀ c ∈ x2', Ok c) → x2'.length ≤ i + 1 → EvP (fun k => laws_someSpots.l0 k x0 x2' ((i + 1 : Nat) : Int)) Post) : ∀ (d j : Nat) (c : List S65) (_ : j + d = 12) (_ : Okm c) (_ : c.length ≤ j),
    EvP (fun k => laws_someSpots.l1 k x0 x2 (i : Int) c (j : Int)) Post
  | d, j, c, hj, hc, hcj => by
    by_cases hlt : (j : Int) < ((rd_L3 x0 (i : Int)).length : Int)
    · cases d with
      | zero =>
        have e : j = 12 := by omega
        subst e
        refine EvP.step (fun k => ?_) (spots_out x0 x2 i c ((12 : Nat) : Int) hc hx hl hi h)
        rw [laws_someSpots.l1, if_pos (by omega), if_pos (by omega), if_pos hlt]
        rfl
      | succ d =>
        have ih := spots_l1 x0 x2 i hx hl hi hi0 h d (j + 1) (c ++ [cs (rd_T65 (rd_L3 x0 (i : Int)) (j : Int))]) (by omega)
          ⟨fun z hz => by
            rcases List.mem_append.1 hz with hz | hz
            · exact hc.1 z hz
            · rw [List.mem_singleton.1 hz]; exact ⟨quarter _, quarter _⟩, by rw [List.length_append, List.length_singleton]; omega⟩ (by rw [List.length_append, List.length_singleton]; omega)
        refine EvP.step (f := fun k => laws_someSpots.j3 k x0 x2 (i : Int) c (j : Int) true) (fun k => ?_) (EvP.step (fun k => ?_) ih)
        · rw [laws_someSpots.l1, if_pos (by omega), if_pos (by omega), if_pos hlt, decide_eq_true (by omega)]
        · rw [laws_someSpots.j3, if_pos rfl, if_pos (by omega), if_pos (by omega), if_pos (by omega), if_pos hlt, if_pos (by omega), wsucc j (by omega)]
          rfl
    · refine EvP.step (fun k => ?_) (spots_out x0 x2 i c (j : Int) hc hx hl hi h)
      rw [laws_someSpots.l1, if_pos (by omega), if_pos (by omega), if_neg hlt]
theorem spots_l0 (x0 : List (List S65)) : ∀ (d i : Nat) (x2 : List (List S65)) (_ : i + d = 5) (_ : ∀ c ∈ x2, Ok c) (_ : x2.length ≤ i), EvP (fun k => laws_someSpots.l0 k x0 x2 (i : Int)) Post
  | d, i, x2, hi, hx, hl => by
    have done : EvP (fun k => laws_someSpots.j1 k x0 x2 (i : Int) false) Post :=
      EvP.step (f := fun _ => some x2) (fun k => by rw [laws_someSpots.j1, if_neg (by simp)]) (EvP.now _ ⟨hx, by omega⟩)
    by_cases hlt : (i : Int) < (x0.length : Int)
    · cases d with
      | zero =>
        have e : i = 5 := by omega
        subst e
        refine EvP.step (fun k => ?_) done
        rw [laws_someSpots.l0, if_pos hlt]
        rfl
      | succ d =>
        have hin := spots_l1 x0 x2 i hx hl (by omega) (by omega) (fun x2' h1 h2 => spots_l0 x0 d (i + 1) x2' (by omega) h1 h2) 12 0 [] (by omega) ⟨fun z hz => by simp at hz, by simp⟩ (by simp)
        refine EvP.step (f := fun k => laws_someSpots.j1 k x0 x2 (i : Int) true) (fun k => ?_) (EvP.step (fun k => ?_) hin)
        · rw [laws_someSpots.l0, if_pos hlt, decide_eq_true (by omega)]
        · rw [laws_someSpots.j1, if_pos rfl]
          rfl
    · refine EvP.step (fun k => ?_) done
      rw [laws_someSpots.l0, if_neg hlt]
theorem fits_l0 (x : List (List S65)) (hl : x.length ≤ 2147483647) : ∀ (t : List (List S65)) (i : Nat) (_ : x.drop i = t) (_ : i ≤ x.length), ∃ b, Ev (fun k => laws_zzFits31.l0 k x (x.length : Int) (i : Int)) b
  | [], i, hd, hi => by
    have : x.length ≤ i := by simpa using hd
    refine ⟨true, Ev.step (f := fun _ => some true) (fun k => ?_) (Ev.now _)⟩
    rw [laws_zzFits31.l0, if_neg (by omega)]
  | c :: t, i, hd, hi => by
    obtain ⟨_, hlt, hd2⟩ := drop_head hd
    obtain ⟨b, hb⟩ := fits_l0 x hl t (i + 1) hd2 (by omega)
    have hw : wrap64 ((i : Int) + 1) = ((i + 1 : Nat) : Int) := by rw [w64 _ (by omega)]; omega
    by_cases h : ((rd_L3 x (i : Int)).length : Int) > 2147483647
    · refine ⟨false, Ev.step (f := fun _ => some false) (fun k => ?_) (Ev.now _)⟩
      rw [laws_zzFits31.l0, if_pos (by omega), if_pos (by omega), if_pos (by omega), if_pos h]
    · refine ⟨b, Ev.step (fun k => ?_) hb⟩
      rw [laws_zzFits31.l0, if_pos (by omega), if_pos (by omega), if_pos (by omega), if_neg h, hw]
theorem fits_is (x : List (List S65)) : ∃ b, Ev (fun k => laws_zzFits31.f k x) b := by
  by_cases h : (x.length : Int) > 2147483647
  · exact ⟨false, Ev.congr (f := fun _ => some false) (fun k => by unfold laws_zzFits31.f; exact if_pos h) (Ev.now _)⟩
  · obtain ⟨b, hb⟩ := fits_l0 x (by omega) x 0 rfl (by omega)
    exact ⟨b, Ev.congr (fun k => by unfold laws_zzFits31.f; exact if_neg h) hb⟩
/-! ### the law -/
def two : List S65 := [⟨true, 0, 0⟩, ⟨true, 1, 0⟩]
theorem two_ok : Ok two := ⟨by simp [two], fun s hs => by simp [two] at hs, fun s hs => by simp [two] at hs; rcases hs with rfl | rfl <;> decide, by simp [two]⟩
theorem two_pcs : (pcs two).length = 2 := by
  have f0 := ofInt_fin .f32 0 (by decide)
  have f1 := ofInt_fin .f32 1 (by decide)
  have h01 : weq (fw 0) (fw 1) = false := by unfold weq fw; rw [oeq f0 f1]; decide
  have h10 : weq (fw 1) (fw 0) = false := by unfold weq fw; rw [oeq f1 f0]; decide
  have e1 : same (fw 0, fw 0) (fw 1, fw 0) = false := by unfold same; rw [h01]; rfl
  have e2 : same (fw 1, fw 0) (fw 0, fw 0) = false := by unfold same; rw [h10]; rfl
  have hr : rst two = [(true, (fw 1, fw 0)), (true, (fw 0, fw 0))] := rfl
  have hs : stp two = (fw 0, fw 0) := rfl
  unfold pcs
  rw [hr, hs]
  simp only [P, e1, e2]
  rfl
theorem law_end : Ev (fun k => (impl_Contours.f k (([(([(⟨true, 0, 0⟩ : S65), (⟨true, 1, 0⟩ : S65)] : List (S65)))] : List (List (S65))))).bind fun t305 => ((spec_PiecesOf.f k t305).bind fun bt308 => (if (bt308.1.length : Int) = 1 then (if 0 < (bt308.1.length : Int) then (some (((rd_L9 bt308.1 0).length : Int) == 2)) else (none)) else (some false)))) true := by
  have hok : ∀ c ∈ [two], Ok c := fun c hc => by rw [List.mem_singleton.1 hc]; exact two_ok
  refine Ev.bind (contours_is [two] hok (by simp)) (Ev.bind (pieces_is [two] hok (by simp)) (Ev.congr (f := fun _ => some true) (fun k => ?_) (Ev.now _)))
  show (if ((([two].map pcs).length : Nat) : Int) = 1 then _ else _) = _
  rw [if_pos (by simp), if_pos (by simp)]
  have : (rd_L9 ([two].map pcs) 0).length = 2 := two_pcs
  rw [this]
  rfl
theorem pcs_len {c : List S65} (hc : Ok c) : (pcs c).length < 900000 := by
  have := P_len (rst c) (stp c)
  have := rst_len c
  have := hc.len
  unfold pcs
  omega
theorem law_l0 (all : List (List S65)) (hok : ∀ c ∈ all, Ok c) (hl : all.length ≤ 5) : ∀ (t : List (List S65)) (i : Nat) (_ : all.drop i = t) (_ : i ≤ all.length), Ev (fun k => laws_FnContours.l0 k (all.map pcs) all (all.length : Int) (i : Int)) true
  | [], i, hd, hi => by
    have : all.length ≤ i := by simpa using hd
    refine Ev.step (fun k => ?_) law_end
    rw [laws_FnContours.l0, if_neg (by omega)]
  | c :: t, i, hd, hi => by
    obtain ⟨_, hlt, hd2⟩ := drop_head hd
    have hrd : rd_L3 all (i : Int) = c := getD_drop [] hd
    have hdm : (all.map pcs).drop i = pcs c :: t.map pcs := by rw [← List.map_drop, hd, List.map_cons]
    have hrp : rd_L9 (all.map pcs) (i : Int) = pcs c := getD_drop [] hdm
    have hc := hok c (List.mem_of_mem_drop (hd ▸ List.mem_cons_self))
    obtain ⟨R, hR, hrel⟩ := ref_is c hc
    have hpg : ∀ p ∈ pcs c, Gq p := P_good _ _ (rst_good hc) (stp_good hc)
    have hg : ∀ p ∈ R, Gq p := by
      rcases hrel with rfl | ⟨A, x, h1, rfl⟩
      · exact hpg
      · intro p hp
        refine hpg p ?_
        rw [h1]
        rcases List.mem_cons.1 hp with rfl | hp
        · simp
        · exact List.mem_append_left _ hp
    have hsame := same_is (pcs c) R hg (pcs_len hc) hrel
    refine Ev.step (f := fun k => (spec_ContourRef.f k c).bind fun t295 => ((spec_PiecesSame.f k (pcs c) t295).bind fun t298 => (if t298 = true then (laws_FnContours.l0 k (all.map pcs) all (all.length : Int) ((i + 1 : Nat) : Int)) else (some false)))) (fun k => ?_)
      (Ev.bind hR (Ev.bind hsame (Ev.congr (fun k => if_pos rfl) (law_l0 all hok hl t (i + 1) hd2 (by omega)))))
    rw [laws_FnContours.l0, if_pos (by omega), if_pos (by omega), if_pos (by omega), if_pos (by rw [List.length_map]; omega), hrd, hrp, wsucc i (by omega)]
theorem FnContours : laws_FnContours.Pure := by
  intro l0 hm hg
  obtain ⟨b, hb⟩ := fits_is l0
  have main : Ev (fun k => laws_FnContours.f k l0) true := by
    refine Ev.bind hb ?_
    cases b with
    | false => exact Ev.congr (f := fun _ => some true) (fun k => if_neg (by simp)) (Ev.now _)
    | true =>
      refine Ev.congr (fun k => if_pos rfl) ?_
      obtain ⟨all, hall, hok, hl⟩ := spots_l0 l0 5 0 [] (by omega) (fun c hc => by simp at hc) (by simp)
      refine Ev.bind hall (Ev.bind (contours_is all hok hl) (Ev.bind (pieces_is all hok hl) (Ev.congr (f := fun k => laws_FnContours.j0 k all (all.map pcs) false) (fun k => ?_) ?_)))
      · show (if (true : Bool) = true then _ else _) = _
        rw [if_pos rfl, List.length_map]
        congr 1
        exact bne_self_eq_false _
      · refine Ev.step (fun k => ?_) (law_l0 all hok hl all 0 rfl (by omega))
        rw [laws_FnContours.j0, if_neg (by simp)]
        rfl
  obtain ⟨k0, hk⟩ := main
  exact ⟨k0, hk k0 (Nat.le_refl _)⟩

end Go.Proofs.Ytlbmfnjhpojghaa.Pure
