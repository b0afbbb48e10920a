/- The law FnNormalized holds for every list of axes, of segments and of coordinates: what the package makes of coordinates (each counted by its axis, then mapped by its segments) is what the reference says of them, to within a 16384th ahead of the segments and behind them. Condition: none (the statement's own bounds on sizes lie in the law). -/
import Derived.Lib.IndexLaws
import Derived.Laws.BitsLemmas
import Derived.Laws.FloatArith
import Derived.Test.YtlbmfnjhpojghaaPFnNormalizedx3
import Derived.Test.YtlbmfnjhpojghaaPFnNormalizedx4
import Derived.Test.YtlbmfnjhpojghaaPFnNormalizedx5
import Derived.Test.YtlbmfnjhpojghaaPFnNormalizedx9
import Derived.Test.YtlbmfnjhpojghaaPFnNormalizedx10
import Derived.Test.YtlbmfnjhpojghaaPFnNormalizedx11
import Derived.Test.YtlbmfnjhpojghaaPFnNormalizedx12
namespace Go.Proofs.Ytlbmfnjhpojghaa.Flt
open Go.Proofs.Ytlbmfnjhpojghaa.PFnNormalized Go.RowKit Go.Proofs.YtlbmfnjhpojghaaW Go.Proofs.YtlbmfnjhpojghaaW.PrintWords Go.Proofs.YtlbmfnjhpojghaaW.PrintLast Go.Proofs.YtlbmfnjhpojghaaW.PrintMore
open Ieee
abbrev P2 (e : Int) : Rat := (2 : Rat) ^ e
theorem P2_pos (e : Int) : 0 < P2 e := Rat.zpow_pos (by decide)
theorem P2_add (a b : Int) : P2 (a + b) = P2 a * P2 b := Rat.zpow_add (by decide) a b
theorem P2_nat (n : Nat) : P2 (n : Int) = ((2 ^ n : Nat) : Rat) := by
  unfold P2
  rw [Rat.zpow_natCast]
  induction n with
  | zero => rfl
  | succ n ih => rw [Rat.pow_succ, ih, Nat.pow_succ, Rat.natCast_mul]; rfl
theorem P2_le {a b : Int} (h : a ≤ b) : P2 a ≤ P2 b := by
  obtain ⟨n, hn⟩ := Int.eq_ofNat_of_zero_le (show 0 ≤ b - a by omega)
  have e : b = a + (n : Int) := by omega
  rw [e, P2_add, P2_nat]
  have h1 : ((1 : Nat) : Rat) ≤ ((2 ^ n : Nat) : Rat) := Rat.natCast_le_natCast.2 (Nat.one_le_pow _ _ (by decide))
  have h2 := Rat.mul_le_mul_of_nonneg_left h1 (Rat.le_of_lt (P2_pos a))
  have h3 : P2 a * ((1 : Nat) : Rat) = P2 a := by show P2 a * 1 = P2 a; grind
  rw [h3] at h2
  exact h2
theorem P2_lt {a b : Int} (h : P2 a < P2 b) : a < b := by
  rcases Int.lt_or_le a b with h' | h'
  · exact h'
  · have := P2_le h'
    grind
theorem P2_half (a : Int) : P2 (a - 1) + P2 (a - 1) = P2 a := by
  have h := P2_add (a - 1) 1
  rw [show a - 1 + 1 = a by omega] at h
  have e : P2 1 = 2 := by decide +kernel
  rw [h, e]
  grind
theorem P2_inv (a : Int) : P2 a * P2 (-a) = 1 := by
  rw [← P2_add, show a + -a = 0 by omega]
  rfl
/-- A cut to the nearest is off by half a unit at the most. -/
theorem cut_near (neg : Bool) (n d : Nat) (hn : n ≠ 0) : 2 * (Toward.even.cut neg n d * 2 ^ d) ≤ 2 * n + 2 ^ d ∧ 2 * n ≤ 2 * (Toward.even.cut neg n d * 2 ^ d) + 2 ^ d ∧ (2 ^ d ∣ n → Toward.even.cut neg n d * 2 ^ d = n) ∧ (∀ c, n < 2 ^ d * c → Toward.even.cut neg n d ≤ c) := by
  have hlog : n < 2 ^ (n.log2 + 1) := Nat.lt_log2_self
  rcases Nat.lt_or_ge (n.log2 + 2) d with hd | hd
  · have hm : min d (n.log2 + 2) = n.log2 + 2 := Nat.min_eq_right (by omega)
    have hg : 2 * n < 2 ^ (n.log2 + 2) := by rw [Nat.pow_succ]; omega
    have hle : 2 ^ (n.log2 + 2) ≤ 2 ^ d := Nat.pow_le_pow_right (by decide) (by omega)
    have hc : Toward.even.cut neg n d = 0 := by
      unfold Toward.cut
      simp only [hm, Nat.shiftLeft_eq, Nat.one_mul]
      have e1 : n / 2 ^ (n.log2 + 2) = 0 := Nat.div_eq_of_lt (by omega)
      have e2 : n % 2 ^ (n.log2 + 2) = n := Nat.mod_eq_of_lt (by omega)
      rw [e1, e2, decide_eq_false (by omega), show (2 ^ (n.log2 + 2) == 2 * n) = false from beq_eq_false_iff_ne.2 (by omega)]
      rfl
    rw [hc]
    refine ⟨by omega, by omega, fun h => ?_, fun c _ => by omega⟩
    obtain ⟨q, hq⟩ := h
    have : q ≠ 0 := by rintro rfl; omega
    have : 2 ^ d * 1 ≤ 2 ^ d * q := Nat.mul_le_mul_left _ (by omega)
    omega
  · have hm : min d (n.log2 + 2) = d := Nat.min_eq_left (by omega)
    have hpos : 0 < 2 ^ d := Nat.two_pow_pos d
    have hdm := Nat.div_add_mod n (2 ^ d)
    have hlt := Nat.mod_lt n hpos
    unfold Toward.cut
    simp only [hm, Nat.shiftLeft_eq, Nat.one_mul]
    generalize n / 2 ^ d = low at *
    have hdvd : 2 ^ d ∣ n → n % 2 ^ d = 0 := Nat.mod_eq_zero_of_dvd
    generalize n % 2 ^ d = rest at *
    have hcap : ∀ c, n < 2 ^ d * c → low + 1 ≤ c := by
      intro c hc
      rcases Nat.lt_or_ge low c with h | h
      · omega
      · have := Nat.mul_le_mul_left (2 ^ d) h
        omega
    generalize 2 ^ d = G at *
    have hcm : low * G = G * low := Nat.mul_comm ..
    by_cases hmore : (decide (G < 2 * rest) || (G == 2 * rest && low % 2 == 1)) = true
    · rw [hmore]
      have h2 : G ≤ 2 * rest := by
        simp only [Bool.or_eq_true, decide_eq_true_eq, Bool.and_eq_true, beq_iff_eq] at hmore
        omega
      have e : (low + true.toNat) * G = G * low + G := by rw [show low + true.toNat = low + 1 from rfl, Nat.add_mul, hcm]; omega
      rw [e]
      refine ⟨by omega, by omega, fun h => ?_, fun c hc => ?_⟩
      · have := hdvd h; omega
      · have := hcap c hc
        show low + 1 ≤ c
        exact this
    · rw [Bool.not_eq_true] at hmore
      rw [hmore]
      have h2 : 2 * rest ≤ G := by
        simp only [Bool.or_eq_false_iff, decide_eq_false_iff_not] at hmore
        omega
      have e : (low + false.toNat) * G = G * low := by rw [show low + false.toNat = low from rfl, hcm]
      rw [e]
      refine ⟨by omega, by omega, fun h => ?_, fun c hc => ?_⟩
      · have := hdvd h; omega
      · have := hcap c hc
        show low ≤ c
        omega
/-- What a rung below infinity reads as. -/
theorem read_rung (f : Format) (neg : Bool) (rung : Nat) (h : rung < f.infRung) :
    ∃ m e, f.read (f.word neg rung) = .number neg m e ∧
      ((rung < f.binade ∧ m = rung ∧ e = f.leastPlace) ∨ (f.binade ≤ rung ∧ m = f.binade + rung % f.binade ∧ e = f.leastPlace + (rung / f.binade - 1 : Nat))) := by
  have hB : 0 < f.binade := Nat.two_pow_pos _
  have hS : f.infRung < f.signWeight := by
    unfold Format.infRung Format.signWeight
    rw [Nat.pow_add]
    have h1 : 2 ^ f.exponentBits - 1 < 2 ^ f.exponentBits := Nat.sub_lt (Nat.two_pow_pos _) (by decide)
    have := Nat.mul_lt_mul_of_pos_right h1 hB
    unfold Format.binade at this ⊢
    exact this
  have hneg : (f.word neg rung / f.signWeight % 2 == 1) = neg := by
    unfold Format.word
    cases neg with
    | false => simp [Nat.div_eq_of_lt (show rung < f.signWeight by omega)]
    | true =>
      have e : (f.signWeight + rung) / f.signWeight = 1 := by
        rw [Nat.add_comm, Nat.add_div_right _ (by omega), Nat.div_eq_of_lt (by omega)]
      simp [e]
  have hr : f.word neg rung % f.signWeight = rung := by
    unfold Format.word
    cases neg with
    | false => simp [Nat.mod_eq_of_lt (show rung < f.signWeight by omega)]
    | true => simp [Nat.mod_eq_of_lt (show rung < f.signWeight by omega)]
  unfold Format.read
  simp only [hneg, hr]
  by_cases h1 : rung < f.binade
  · rw [if_pos h1]
    exact ⟨_, _, rfl, Or.inl ⟨h1, rfl, rfl⟩⟩
  · rw [if_neg h1, if_pos h]
    exact ⟨_, _, rfl, Or.inr ⟨by omega, rfl, rfl⟩⟩

theorem lelt {a b c : Rat} (h : a ≤ b) (k : b < c) : a < c := by grind
/-- The signed value. -/
def sgn (neg : Bool) (x : Rat) : Rat := if neg then -x else x
/-- What half a unit in the last place is of a number, and of the least ones. -/
def UL : FloatKind → Rat
  | .f32 => P2 (-24)
  | .f64 => P2 (-53)
def EL (k : FloatKind) : Rat := P2 (k.format.leastPlace - 1)
theorem fb_is (k : FloatKind) : k.format.fractionBits = 23 ∧ k.format.leastPlace = -149 ∧ k.format.infRung = 255 * 2 ^ 23 ∧ UL k = P2 (-((k.format.fractionBits : Int) + 1)) ∨ k.format.fractionBits = 52 ∧ k.format.leastPlace = -1074 ∧ k.format.infRung = 2047 * 2 ^ 52 ∧ UL k = P2 (-((k.format.fractionBits : Int) + 1)) := by
  cases k
  · exact Or.inl ⟨rfl, rfl, rfl, rfl⟩
  · exact Or.inr ⟨rfl, rfl, rfl, rfl⟩
/-- A number that the kind has. -/
def Rep (k : FloatKind) (x : Rat) : Prop := ∃ (n : Nat) (p : Int), x = (n : Rat) * P2 p ∧ n < 2 ^ (k.format.fractionBits + 1) ∧ k.format.leastPlace ≤ p
theorem natCast_le {a b : Nat} (h : a ≤ b) : (a : Rat) ≤ (b : Rat) := Rat.natCast_le_natCast.2 h
theorem natCast_lt {a b : Nat} (h : a < b) : (a : Rat) < (b : Rat) := Rat.natCast_lt_natCast.2 h
theorem mul_mono {a b c : Rat} (h : a ≤ b) (hc : 0 ≤ c) : a * c ≤ b * c := Rat.mul_le_mul_of_nonneg_right h hc
theorem mag_low {mag : Nat} (h : mag ≠ 0) (place : Int) : P2 (place + mag.log2) ≤ (mag : Rat) * P2 place := by
  rw [P2_add, P2_nat, Rat.mul_comm]
  exact mul_mono (natCast_le (Nat.log2_self_le h)) (Rat.le_of_lt (P2_pos _))
theorem mag_high (mag : Nat) (place : Int) : (mag : Rat) * P2 place < P2 (place + mag.log2 + 1) := by
  rw [show place + (mag.log2 : Int) + 1 = place + ((mag.log2 + 1 : Nat) : Int) by omega, P2_add, P2_nat, Rat.mul_comm (P2 place)]
  exact Rat.mul_lt_mul_of_pos_right (natCast_lt Nat.lt_log2_self) (P2_pos _)

/-- ROUNDING: the word nearest to a number that is not too great reads as a number that is off by half a unit at the most; and just as that number, if the kind has it. -/
theorem nearest_val (k : FloatKind) (neg : Bool) (mag : Nat) (place : Int) (hx : (mag : Rat) * P2 place ≤ P2 60) :
    ∃ m e, k.decode (k.encode (.number neg mag place)) = .number neg m e ∧
      (m : Rat) * P2 e ≤ (mag : Rat) * P2 place + ((mag : Rat) * P2 place * UL k + EL k) ∧ (mag : Rat) * P2 place ≤ (m : Rat) * P2 e + ((mag : Rat) * P2 place * UL k + EL k) ∧
      (Rep k ((mag : Rat) * P2 place) → (m : Rat) * P2 e = (mag : Rat) * P2 place) := by
  have hf := fb_is k
  have hEL := P2_pos (k.format.leastPlace - 1)
  unfold FloatKind.decode FloatKind.encode Format.write Format.nearest EL
  simp only
  by_cases h0 : mag = 0
  · subst h0
    simp only [if_pos]
    obtain ⟨m, e, hr, hc⟩ := read_rung k.format neg 0 (by rcases hf with h | h <;> omega)
    refine ⟨m, e, hr, ?_⟩
    have hm : m = 0 := by
      rcases hc with ⟨_, h, _⟩ | ⟨h, _, _⟩
      · exact h
      · have : 0 < k.format.binade := Nat.two_pow_pos _
        omega
    subst hm
    have z : ((0 : Nat) : Rat) * P2 e = 0 := by show (0 : Rat) * _ = 0; grind
    have z' : ((0 : Nat) : Rat) * P2 place = 0 := by show (0 : Rat) * _ = 0; grind
    rw [z, z']
    refine ⟨by grind, by grind, fun _ => rfl⟩
  · rw [if_neg h0]
    have hlow := mag_low h0 place
    have hhigh := mag_high mag place
    generalize hL : mag.log2 = L at *
    have h60 : place + (L : Int) ≤ 60 := by
      have := P2_lt (a := place + L) (b := 61) (by have := P2_half 61; have := P2_pos (61 - 1); have : P2 (61 - 1) = P2 60 := rfl; grind)
      omega
    generalize hlast : max (place + (L : Int) - (k.format.fractionBits : Int)) k.format.leastPlace = last
    have hl1 : k.format.leastPlace ≤ last := by omega
    have hl2 : place + (L : Int) - (k.format.fractionBits : Int) ≤ last := by omega
    generalize hn : mag <<< (place - last).toNat = n
    generalize hd : (last - place).toNat = d
    rw [Nat.shiftLeft_eq] at hn
    have hn0 : n ≠ 0 := by
      rw [← hn]
      exact Nat.mul_ne_zero h0 (Nat.ne_of_gt (Nat.two_pow_pos _))
    obtain ⟨c1, c2, c3, c4⟩ := cut_near neg n d hn0
    generalize hr : Toward.even.cut neg n d = r at *
    -- the number in units
    have hxn : (mag : Rat) * P2 place = (n : Rat) * P2 (last - (d : Int)) := by
      rcases Int.lt_or_le place last with h | h
      · rw [show last - (d : Int) = place by omega, ← hn, show (place - last).toNat = 0 by omega, Nat.pow_zero, Nat.mul_one]
      · rw [show last - (d : Int) = last by omega, ← hn, Rat.natCast_mul, ← P2_nat, Rat.mul_assoc, ← P2_add, show (((place - last).toNat : Nat) : Int) + last = place by omega]
    have hpd : P2 (last - (d : Int)) * ((2 ^ d : Nat) : Rat) = P2 last := by
      rw [← P2_nat, ← P2_add, show last - (d : Int) + (d : Int) = last by omega]
    have hyr : (r : Rat) * P2 last = ((r * 2 ^ d : Nat) : Rat) * P2 (last - (d : Int)) := by
      rw [Rat.natCast_mul, ← hpd]
      grind
    -- few units
    have hfew : r ≤ 2 ^ (k.format.fractionBits + 1) := by
      refine c4 _ (Nat.lt_of_not_le fun hge => ?_)
      have q1 := mul_mono (natCast_le hge) (Rat.le_of_lt (P2_pos (last - (d : Int))))
      rw [← hxn, Rat.natCast_mul, ← P2_nat, ← P2_nat, Rat.mul_assoc, Rat.mul_comm, Rat.mul_assoc, ← P2_add, ← P2_add] at q1
      have q2 := P2_lt (lelt q1 hhigh)
      omega
    -- the rung
    have hBB : (2 : Nat) ^ (k.format.fractionBits + 1) = 2 * k.format.binade := by unfold Format.binade; rw [Nat.pow_succ]; omega
    have hinf : (last - k.format.leastPlace).toNat * k.format.binade + r < k.format.infRung := by
      rcases hf with ⟨f1, f2, f3, _⟩ | ⟨f1, f2, f3, _⟩
      · have : k.format.binade = 2 ^ 23 := by unfold Format.binade; rw [f1]
        rw [f3, this]
        rw [this] at hBB
        have : (last - k.format.leastPlace).toNat ≤ 187 := by omega
        have := Nat.mul_le_mul_right (2 ^ 23) this
        omega
      · have : k.format.binade = 2 ^ 52 := by unfold Format.binade; rw [f1]
        rw [f3, this]
        rw [this] at hBB
        have : (last - k.format.leastPlace).toNat ≤ 1083 := by omega
        have := Nat.mul_le_mul_right (2 ^ 52) this
        omega
    rw [Nat.min_eq_left (Nat.le_of_lt hinf)]
    obtain ⟨m, e, hread, hc⟩ := read_rung k.format neg _ hinf
    refine ⟨m, e, hread, ?_⟩
    have hB : 0 < k.format.binade := Nat.two_pow_pos _
    -- below a whole binade only at the least place
    have hbig : k.format.binade ≤ r ∨ last = k.format.leastPlace := by
      rcases Nat.lt_or_ge r k.format.binade with h | h
      · refine Or.inr ?_
        rcases Int.lt_or_le k.format.leastPlace last with h' | h'
        · exfalso
          have hlast' : last = place + (L : Int) - (k.format.fractionBits : Int) := by omega
          have hdvd : k.format.binade * 2 ^ d ≤ n := by
            refine Nat.le_of_not_lt fun hlt => ?_
            have q1 := Rat.mul_lt_mul_of_pos_right (natCast_lt hlt) (P2_pos (last - (d : Int)))
            rw [← hxn, Rat.natCast_mul, Rat.mul_assoc, Rat.mul_comm ((2 ^ d : Nat) : Rat), hpd] at q1
            unfold Format.binade at q1
            rw [← P2_nat, ← P2_add] at q1
            have q2 := P2_lt (lelt hlow q1)
            omega
          have h3 : r * 2 ^ d + 2 ^ d ≤ k.format.binade * 2 ^ d := by
            have := Nat.mul_le_mul_right (2 ^ d) (show r + 1 ≤ k.format.binade from h)
            rw [Nat.add_mul, Nat.one_mul] at this
            exact this
          have : 0 < 2 ^ d := Nat.two_pow_pos d
          omega
        · omega
      · exact Or.inl h
    have hval : (m : Rat) * P2 e = (r : Rat) * P2 last := by
      obtain ⟨t, ht⟩ : ∃ t : Nat, last = k.format.leastPlace + (t : Int) := ⟨(last - k.format.leastPlace).toNat, by omega⟩
      rw [show (last - k.format.leastPlace).toNat = t by omega] at hc hinf
      have hr2 : r ≤ 2 * k.format.binade := by omega
      rcases hc with ⟨h1, h2, h3⟩ | ⟨h1, h2, h3⟩
      · have ht0 : t = 0 := by
          rcases Nat.eq_zero_or_pos t with h | h
          · exact h
          · have := Nat.mul_le_mul_right k.format.binade h
            omega
        subst ht0
        rw [h2, h3, Nat.zero_mul, Nat.zero_add, ht]
        simp
      · rcases Nat.lt_or_ge r k.format.binade with hs | hs
        · have ht0 : t = 0 := by
            rcases hbig with h | h
            · omega
            · omega
          subst ht0
          omega
        · rcases Nat.lt_or_ge r (2 * k.format.binade) with hs2 | hs2
          · obtain ⟨q, hq⟩ : ∃ q, r = k.format.binade + q := ⟨r - k.format.binade, by omega⟩
            have hrr : t * k.format.binade + r = (t + 1) * k.format.binade + q := by rw [hq, Nat.add_mul]; omega
            have hqlt : q < k.format.binade := by omega
            have e1 : (t * k.format.binade + r) / k.format.binade = t + 1 := by
              rw [hrr, Nat.mul_comm, Nat.mul_add_div hB, Nat.div_eq_of_lt hqlt]
            have e2 : (t * k.format.binade + r) % k.format.binade = q := by
              rw [hrr, Nat.mul_comm, Nat.mul_add_mod, Nat.mod_eq_of_lt hqlt]
            rw [h2, h3, e1, e2, ← hq, ht]
            rfl
          · have hr3 : r = 2 * k.format.binade := by omega
            have hrr : t * k.format.binade + r = (t + 2) * k.format.binade := by rw [hr3, Nat.add_mul]
            have e1 : (t * k.format.binade + r) / k.format.binade = t + 2 := by rw [hrr, Nat.mul_div_cancel _ hB]
            have e2 : (t * k.format.binade + r) % k.format.binade = 0 := by rw [hrr, Nat.mul_mod_left]
            rw [h2, h3, e1, e2, ht, hr3, Nat.add_zero, show k.format.leastPlace + ((t + 2 - 1 : Nat) : Int) = k.format.leastPlace + (t : Int) + 1 by omega, P2_add _ 1, Rat.natCast_mul]
            have e3 : P2 1 = 2 := by decide +kernel
            rw [e3]
            show _ = (2 : Rat) * _ * _
            grind
    rw [hval]
    -- the error
    have hunit : P2 (last - 1) ≤ (mag : Rat) * P2 place * UL k + P2 (k.format.leastPlace - 1) := by
      have hU : UL k = P2 (-((k.format.fractionBits : Int) + 1)) := by rcases hf with h | h <;> exact h.2.2.2
      have hUp : 0 < UL k := by rw [hU]; exact P2_pos _
      have hx0 : 0 ≤ (mag : Rat) * P2 place := Rat.le_trans (Rat.le_of_lt (P2_pos _)) hlow
      have hxu : 0 ≤ (mag : Rat) * P2 place * UL k := Rat.mul_nonneg hx0 (Rat.le_of_lt hUp)
      rcases Int.lt_or_le k.format.leastPlace last with h' | h'
      · have hlast' : last - 1 = place + (L : Int) + -((k.format.fractionBits : Int) + 1) := by omega
        have q := mul_mono hlow (Rat.le_of_lt hUp)
        rw [hU] at q ⊢
        rw [← P2_add, ← hlast'] at q
        have := P2_pos (k.format.leastPlace - 1)
        grind
      · have : last = k.format.leastPlace := by omega
        rw [this]
        grind
    have hp := P2_pos (last - (d : Int))
    have hh : P2 (last - 1) + P2 (last - 1) = ((2 ^ d : Nat) : Rat) * P2 (last - (d : Int)) := by rw [P2_half, Rat.mul_comm, hpd]
    have b1 : (r : Rat) * P2 last ≤ (mag : Rat) * P2 place + P2 (last - 1) := by
      have q := mul_mono (natCast_le c1) (Rat.le_of_lt hp)
      rw [Rat.natCast_add, Rat.natCast_mul, Rat.natCast_mul 2 n] at q
      rw [hyr, hxn]
      have t2 : ((2 : Nat) : Rat) = 2 := rfl
      rw [t2] at q
      grind
    have b2 : (mag : Rat) * P2 place ≤ (r : Rat) * P2 last + P2 (last - 1) := by
      have q := mul_mono (natCast_le c2) (Rat.le_of_lt hp)
      rw [Rat.natCast_add, Rat.natCast_mul, Rat.natCast_mul 2 (r * 2 ^ d)] at q
      rw [hyr, hxn]
      have t2 : ((2 : Nat) : Rat) = 2 := rfl
      rw [t2] at q
      grind
    refine ⟨by grind, by grind, ?_⟩
    rintro ⟨a, p, ha, hb, hlp⟩
    have hple : last ≤ p := by
      have q1 : P2 (place + (L : Int)) < P2 (((k.format.fractionBits + 1 : Nat) : Int) + p) := by
        refine lelt hlow ?_
        rw [ha, P2_add, P2_nat]
        exact Rat.mul_lt_mul_of_pos_right (natCast_lt hb) (P2_pos _)
      have := P2_lt q1
      omega
    have hdv : 2 ^ d ∣ n := by
      rcases Int.lt_or_le place last with h | h
      · have hnm : n = mag := by rw [← hn, show (place - last).toNat = 0 by omega]; simp
        have hmul : (mag : Rat) = ((a * 2 ^ (p - place).toNat : Nat) : Rat) := by
          have e : P2 p = P2 (((p - place).toNat : Nat) : Int) * P2 place := by rw [← P2_add]; congr 1; omega
          rw [Rat.natCast_mul, ← P2_nat]
          rw [e, ← Rat.mul_assoc] at ha
          have hpp := P2_pos place
          have h1 : (mag : Rat) * P2 place / P2 place = (a : Rat) * P2 (((p - place).toNat : Nat) : Int) * P2 place / P2 place := by rw [ha]
          rw [Rat.mul_div_cancel (by grind), Rat.mul_div_cancel (by grind)] at h1
          exact h1
        have hmul' : mag = a * 2 ^ (p - place).toNat := Rat.natCast_inj.1 hmul
        rw [hnm, hmul']
        exact Nat.dvd_trans (Nat.pow_dvd_pow 2 (by omega)) (Nat.dvd_mul_left _ _)
      · rw [show d = 0 by omega]
        exact ⟨n, by simp⟩
    have := c3 hdv
    rw [hyr, this, ← hxn]

/-- The word is a finite number; its value. -/
def Fin (k : FloatKind) (b : Nat) (x : Rat) : Prop := ∃ s m e, k.decode b = .number s m e ∧ x = sgn s ((m : Rat) * P2 e)
/-- A number that the kind has, of either sign. -/
def RepS (k : FloatKind) (x : Rat) : Prop := Rep k x ∨ Rep k (-x)
theorem sgn_abs (s : Bool) (x : Rat) (h : 0 ≤ x) : sgn s x ≤ x ∧ -x ≤ sgn s x := by
  unfold sgn
  cases s
  · simp; grind
  · simp; grind
theorem val_nonneg (m : Nat) (e : Int) : 0 ≤ (m : Rat) * P2 e := Rat.mul_nonneg (Rat.natCast_nonneg) (Rat.le_of_lt (P2_pos e))
/-- x and z: near, by half a unit in the last place. -/
def Near (k : FloatKind) (z x : Rat) : Prop := (0 ≤ x → z ≤ x + (x * UL k + EL k) ∧ x ≤ z + (x * UL k + EL k) ∧ 0 ≤ z) ∧ (x ≤ 0 → z ≤ x + (-x * UL k + EL k) ∧ x ≤ z + (-x * UL k + EL k) ∧ z ≤ 0)
theorem rep_zero_pos (n : Nat) (p : Int) (x : Rat) (h : -x = (n : Rat) * P2 p) (hx : 0 ≤ x) : x = 0 := by
  have := val_nonneg n p
  grind
/-- What is written of a number: near it; just it, if the kind has it. -/
theorem encode_fin (k : FloatKind) (s : Bool) (mag : Nat) (place : Int) (x : Rat) (hx : x = sgn s ((mag : Rat) * P2 place)) (h1 : x ≤ P2 60) (h2 : -x ≤ P2 60) :
    ∃ z, Fin k (k.encode (.number s mag place)) z ∧ Near k z x ∧ (RepS k x → z = x) := by
  have hv := val_nonneg mag place
  have hle : (mag : Rat) * P2 place ≤ P2 60 := by
    unfold sgn at hx
    cases s
    · simp at hx; grind
    · simp at hx; grind
  obtain ⟨m, e, hd, a1, a2, a3⟩ := nearest_val k s mag place hle
  have hm := val_nonneg m e
  refine ⟨sgn s ((m : Rat) * P2 e), ⟨s, m, e, hd, rfl⟩, ?_, ?_⟩
  · subst hx
    unfold sgn Near
    have hE : 0 < EL k := P2_pos _
    have hU : 0 < UL k := by cases k <;> exact P2_pos _
    have hxu : 0 ≤ (mag : Rat) * P2 place * UL k := Rat.mul_nonneg hv (Rat.le_of_lt hU)
    have h00 : (mag : Rat) * P2 place ≤ 0 → (mag : Rat) * P2 place = 0 := fun h => by grind
    have hrep0 : (mag : Rat) * P2 place = 0 → (m : Rat) * P2 e = 0 := fun h => by
      have := a3 ⟨0, k.format.leastPlace, by rw [h]; show (0 : Rat) = 0 * _; grind, Nat.two_pow_pos _, Int.le_refl _⟩
      rw [this, h]
    cases s
    · simp
      refine ⟨fun _ => ⟨a1, a2, hm⟩, fun h => ?_⟩
      have z0 := h00 h
      have z1 := hrep0 z0
      rw [z0, z1]
      refine ⟨?_, ?_, by grind⟩ <;> grind
    · simp
      refine ⟨fun h => ?_, fun h => ?_⟩
      · have z0 : (mag : Rat) * P2 place = 0 := by grind
        have z1 := hrep0 z0
        rw [z0, z1]
        refine ⟨?_, ?_, by grind⟩ <;> grind
      · refine ⟨?_, ?_, by grind⟩ <;> grind
  · intro hr
    subst hx
    unfold sgn at hr ⊢
    have key : Rep k ((mag : Rat) * P2 place) := by
      cases s with
      | false =>
        simp at hr
        rcases hr with h | ⟨n, p, h, hn, hp⟩
        · exact h
        · have z := rep_zero_pos n p _ h hv
          exact ⟨0, k.format.leastPlace, by rw [z]; show (0 : Rat) = 0 * _; grind, Nat.two_pow_pos _, Int.le_refl _⟩
      | true =>
        simp at hr
        rcases hr with ⟨n, p, h, hn, hp⟩ | h
        · have z := rep_zero_pos n p _ h hv
          exact ⟨0, k.format.leastPlace, by rw [z]; show (0 : Rat) = 0 * _; grind, Nat.two_pow_pos _, Int.le_refl _⟩
        · rwa [Rat.neg_neg] at h
    rw [a3 key]
theorem signed_val (s : Bool) (m up : Nat) (base : Int) : ((Ieee.signed s m up : Int) : Rat) * P2 base = sgn s ((m : Rat) * P2 (base + (up : Int))) := by
  unfold Ieee.signed sgn
  rw [P2_add, P2_nat]
  cases s
  · simp only [Bool.false_eq_true, if_false]
    rw [Nat.shiftLeft_eq, Rat.intCast_natCast, Rat.natCast_mul]
    grind
  · simp only [if_true]
    rw [Nat.shiftLeft_eq, Rat.intCast_neg, Rat.intCast_natCast, Rat.natCast_mul]
    grind
/-- The sum of two numbers, as the machine has it ahead of rounding. -/
theorem sum_val {s t : Bool} {m n : Nat} {i j : Int} : ∃ u a p, Datum.sum (.number s m i) (.number t n j) = some (.number u a p) ∧ sgn u ((a : Rat) * P2 p) = sgn s ((m : Rat) * P2 i) + sgn t ((n : Rat) * P2 j) := by
  refine ⟨_, _, _, rfl, ?_⟩
  generalize hb : min i j = base
  have e1 := signed_val s m (i - base).toNat base
  have e2 := signed_val t n (j - base).toNat base
  rw [show base + (((i - base).toNat : Nat) : Int) = i by omega] at e1
  rw [show base + (((j - base).toNat : Nat) : Int) = j by omega] at e2
  rw [← e1, ← e2, ← Rat.add_mul, ← Rat.intCast_add]
  generalize Ieee.signed s m (i - base).toNat + Ieee.signed t n (j - base).toNat = T
  by_cases h0 : T = 0
  · subst h0
    simp only [if_true, Int.natAbs_zero]
    have z : ((0 : Nat) : Rat) * P2 base = 0 := by show (0 : Rat) * _ = 0; grind
    have z2 : ((0 : Int) : Rat) * P2 base = 0 := by show (0 : Rat) * _ = 0; grind
    rw [z, z2]
    unfold sgn
    split <;> grind
  · rw [if_neg h0]
    unfold sgn
    by_cases hn : T < 0
    · rw [decide_eq_true hn, if_pos rfl]
      have : (T.natAbs : Int) = -T := by omega
      have e : ((T.natAbs : Nat) : Rat) = -(T : Rat) := by rw [← Rat.intCast_neg, ← this]; rfl
      rw [e]
      grind
    · rw [decide_eq_false hn, if_neg (by decide)]
      have : (T.natAbs : Int) = T := by omega
      have e : ((T.natAbs : Nat) : Rat) = (T : Rat) := by rw [← Rat.intCast_natCast, this]
      rw [e]
theorem add_fin {k : FloatKind} {a b : Nat} {x y : Rat} (ha : Fin k a x) (hb : Fin k b y) (h1 : x + y ≤ P2 60) (h2 : -(x + y) ≤ P2 60) :
    ∃ r z, floatBits .add k a b = some r ∧ Fin k r z ∧ Near k z (x + y) ∧ (RepS k (x + y) → z = x + y) := by
  obtain ⟨s, m, i, hda, rfl⟩ := ha
  obtain ⟨t, n, j, hdb, rfl⟩ := hb
  obtain ⟨u, c, p, hs, hv⟩ := sum_val (s := s) (t := t) (m := m) (n := n) (i := i) (j := j)
  obtain ⟨z, hz, hn, hr⟩ := encode_fin k u c p _ hv.symm h1 h2
  refine ⟨_, z, ?_, hz, hn, hr⟩
  unfold FloatKind.decode at hda hdb
  simp only [floatBits, Format.add, hda, hdb, hs, Option.map_some]
  rfl
theorem sub_fin {k : FloatKind} {a b : Nat} {x y : Rat} (ha : Fin k a x) (hb : Fin k b y) (h1 : x - y ≤ P2 60) (h2 : -(x - y) ≤ P2 60) :
    ∃ r z, floatBits .sub k a b = some r ∧ Fin k r z ∧ Near k z (x - y) ∧ (RepS k (x - y) → z = x - y) := by
  obtain ⟨s, m, i, hda, rfl⟩ := ha
  obtain ⟨t, n, j, hdb, rfl⟩ := hb
  obtain ⟨u, c, p, hs, hv⟩ := sum_val (s := s) (t := !t) (m := m) (n := n) (i := i) (j := j)
  have e : sgn s ((m : Rat) * P2 i) + sgn (!t) ((n : Rat) * P2 j) = sgn s ((m : Rat) * P2 i) - sgn t ((n : Rat) * P2 j) := by
    unfold sgn
    cases t <;> simp <;> grind
  rw [e] at hv
  obtain ⟨z, hz, hn, hr⟩ := encode_fin k u c p _ hv.symm h1 h2
  refine ⟨_, z, ?_, hz, hn, hr⟩
  unfold FloatKind.decode at hda hdb
  simp only [floatBits, Format.sub, hda, hdb, Datum.opposite, hs, Option.map_some]
  rfl
theorem sgn_mul (s t : Bool) (x y : Rat) : sgn s x * sgn t y = sgn (s ^^ t) (x * y) := by
  unfold sgn
  cases s <;> cases t <;> simp <;> grind
theorem mul_fin {k : FloatKind} {a b : Nat} {x y : Rat} (ha : Fin k a x) (hb : Fin k b y) (h1 : x * y ≤ P2 60) (h2 : -(x * y) ≤ P2 60) :
    ∃ r z, floatBits .mul k a b = some r ∧ Fin k r z ∧ Near k z (x * y) ∧ (RepS k (x * y) → z = x * y) := by
  obtain ⟨s, m, i, hda, rfl⟩ := ha
  obtain ⟨t, n, j, hdb, rfl⟩ := hb
  have hv : sgn s ((m : Rat) * P2 i) * sgn t ((n : Rat) * P2 j) = sgn (s ^^ t) (((m * n : Nat) : Rat) * P2 (i + j)) := by
    rw [sgn_mul, Rat.natCast_mul, P2_add]
    congr 1
    grind
  obtain ⟨z, hz, hn, hr⟩ := encode_fin k (s ^^ t) (m * n) (i + j) _ hv h1 h2
  refine ⟨_, z, ?_, hz, hn, hr⟩
  unfold FloatKind.decode at hda hdb
  simp only [floatBits, Format.mul, hda, hdb, Datum.product, Option.map_some]
  rfl

/-- The quotient of two numbers, as the machine has it ahead of rounding: near enough. -/
theorem quo_val {digits : Nat} {s t : Bool} {m n : Nat} {i j : Int} (hn : n ≠ 0) : ∃ a p, Datum.quotient digits (.number s m i) (.number t n j) = some (.number (s ^^ t) a p) ∧
    (a : Rat) * P2 p * ((n : Rat) * P2 j) ≤ (m : Rat) * P2 i + (m : Rat) * P2 i * P2 (-(digits : Int)) ∧ (m : Rat) * P2 i ≤ (a : Rat) * P2 p * ((n : Rat) * P2 j) + (m : Rat) * P2 i * P2 (-(digits : Int)) ∧
    (∀ (c : Nat) (q : Int), (m : Rat) * P2 i = (c : Rat) * P2 q * ((n : Rat) * P2 j) → c < 2 ^ digits → (a : Rat) * P2 p * ((n : Rat) * P2 j) = (m : Rat) * P2 i) := by
  refine ⟨_, _, (if_neg hn).trans rfl, ?_⟩
  generalize hmore : digits + n.log2 - m.log2 = more
  rw [Nat.shiftLeft_eq]
  generalize hD : m * 2 ^ more = D
  have hdm := Nat.div_add_mod D n
  have hlt := Nat.mod_lt D (Nat.pos_of_ne_zero hn)
  have hdv : ∀ q', D = q' * n → D % n = 0 := fun q' h => by rw [h]; exact Nat.mul_mod_left ..
  have hqq : D / n = D / n := rfl
  generalize hqd : D / n = Q at *
  generalize hr : D % n = R at *
  have hJ := P2_pos j
  have hI := P2_pos i
  have hscale : (m : Rat) * P2 i = (D : Rat) * P2 (i - (more : Int)) := by
    rw [← hD, Rat.natCast_mul, ← P2_nat, Rat.mul_assoc, ← P2_add]
    congr 2
    omega
  -- a quotient's unit
  have hunit : ∀ a : Nat, (a : Rat) * P2 (i - j - (more : Int) - 1) * ((n : Rat) * P2 j) = ((a * n : Nat) : Rat) * P2 (i - (more : Int) - 1) := by
    intro a
    have e : P2 (i - (more : Int) - 1) = P2 (i - j - (more : Int) - 1) * P2 j := by rw [← P2_add]; congr 1; omega
    rw [e, Rat.natCast_mul]
    grind
  have hDn : D = n * Q + R := by omega
  have hhalf := P2_half (i - (more : Int))
  have hp := P2_pos (i - (more : Int) - 1)
  have hD2 : (D : Rat) * P2 (i - (more : Int)) = ((2 * D : Nat) : Rat) * P2 (i - (more : Int) - 1) := by
    rw [Rat.natCast_mul, ← hhalf]
    have t2 : ((2 : Nat) : Rat) = 2 := rfl
    rw [t2]
    grind
  rw [hunit, hscale, hD2]
  -- how great the whole quotient is
  have hslack : m ≠ 0 → n * 2 ^ digits ≤ 2 * D := by
    intro hm0
    have l1 := Nat.log2_self_le hm0
    have l2 : n < 2 ^ (n.log2 + 1) := Nat.lt_log2_self
    have h1 : n * 2 ^ digits ≤ 2 ^ (n.log2 + 1) * 2 ^ digits := Nat.mul_le_mul_right _ (Nat.le_of_lt l2)
    rw [← Nat.pow_add] at h1
    have h2 : 2 ^ m.log2 * 2 ^ more ≤ D := by rw [← hD]; exact Nat.mul_le_mul_right _ l1
    rw [← Nat.pow_add] at h2
    have h3 : 2 ^ (n.log2 + 1 + digits) ≤ 2 ^ (m.log2 + more + 1) := Nat.pow_le_pow_right (by decide) (by omega)
    have h4 : 2 ^ (m.log2 + more + 1) = 2 * 2 ^ (m.log2 + more) := by rw [Nat.pow_succ]; omega
    omega
  have hs : ((2 * D : Nat) : Rat) * P2 (i - (more : Int) - 1) * P2 (-(digits : Int)) ≥ (if m = 0 then 0 else (n : Rat) * P2 (i - (more : Int) - 1)) := by
    by_cases hm0 : m = 0
    · rw [if_pos hm0]
      exact Rat.mul_nonneg (Rat.mul_nonneg Rat.natCast_nonneg (Rat.le_of_lt hp)) (Rat.le_of_lt (P2_pos _))
    · rw [if_neg hm0]
      have q := natCast_le (hslack hm0)
      rw [Rat.natCast_mul n, ← P2_nat] at q
      have q2 := mul_mono (mul_mono q (Rat.le_of_lt hp)) (Rat.le_of_lt (P2_pos (-(digits : Int))))
      have inv := P2_inv (digits : Int)
      have e : (n : Rat) * P2 (digits : Int) * P2 (i - (more : Int) - 1) * P2 (-(digits : Int)) = (n : Rat) * P2 (i - (more : Int) - 1) * (P2 (digits : Int) * P2 (-(digits : Int))) := by grind
      rw [e, inv] at q2
      grind
  have hR0 : m = 0 → R = 0 := by
    intro h
    have : D = 0 := by rw [← hD, h]; simp
    exact hdv 0 (by omega)
  have hmul : (2 * Q + (R != 0).toNat) * n = 2 * (n * Q) + (if R = 0 then 0 else n) := by
    by_cases h : R = 0
    · rw [h, if_pos rfl]
      simp
      rw [Nat.mul_assoc, Nat.mul_comm Q n]
    · rw [if_neg h, show (R != 0) = true from bne_iff_ne.2 h, show true.toNat = 1 from rfl, Nat.add_mul, Nat.mul_assoc, Nat.mul_comm Q n, Nat.one_mul]
  have hnpos := natCast_lt (Nat.pos_of_ne_zero hn)
  have hnp : 0 ≤ (n : Rat) * P2 (i - (more : Int) - 1) := Rat.mul_nonneg Rat.natCast_nonneg (Rat.le_of_lt hp)
  refine ⟨?_, ?_, ?_⟩
  · rw [hmul]
    by_cases h : R = 0
    · rw [if_pos h]
      have q := mul_mono (natCast_le (show 2 * (n * Q) + 0 ≤ 2 * D by omega)) (Rat.le_of_lt hp)
      have hm : (0 : Rat) ≤ (if m = 0 then 0 else (n : Rat) * P2 (i - (more : Int) - 1)) := by split <;> grind
      grind
    · rw [if_neg h]
      have hm0 : m ≠ 0 := fun h' => h (hR0 h')
      rw [if_neg hm0] at hs
      have q := mul_mono (natCast_le (show 2 * (n * Q) + n ≤ 2 * D + n by omega)) (Rat.le_of_lt hp)
      rw [Rat.natCast_add (2 * D)] at q
      grind
  · rw [hmul]
    by_cases h : R = 0
    · rw [if_pos h]
      have q := mul_mono (natCast_le (show 2 * D ≤ 2 * (n * Q) + 0 by omega)) (Rat.le_of_lt hp)
      have hm : (0 : Rat) ≤ (if m = 0 then 0 else (n : Rat) * P2 (i - (more : Int) - 1)) := by split <;> grind
      grind
    · rw [if_neg h]
      have hm0 : m ≠ 0 := fun h' => h (hR0 h')
      rw [if_neg hm0] at hs
      have q := mul_mono (natCast_le (show 2 * D ≤ 2 * (n * Q) + n + n by omega)) (Rat.le_of_lt hp)
      rw [Rat.natCast_add (2 * (n * Q) + n)] at q
      grind
  · intro c q hc hcl
    rw [hmul]
    by_cases h : R = 0
    · rw [if_pos h, show 2 * (n * Q) + 0 = 2 * D by omega]
    · exfalso
      have hm0 : m ≠ 0 := fun h' => h (hR0 h')
      -- D / n = c * 2^(q - (i - j - more)), a whole number
      have hD3 : (D : Rat) * P2 (i - (more : Int)) = (c : Rat) * P2 q * ((n : Rat) * P2 j) := by rw [hD2]; exact hc
      have hpos2 := P2_pos (i - (more : Int))
      -- q + j ≥ i - more
      have hge : i - (more : Int) ≤ q + j := by
        rcases Int.lt_or_le (q + j) (i - (more : Int)) with h' | h'
        · exfalso
          have q1 := mul_mono (natCast_le (hslack hm0)) (Rat.le_of_lt hp)
          rw [← hD2, hD3, Rat.natCast_mul, ← P2_nat] at q1
          -- n * 2^digits * P2 (i-more-1) ≤ c * P2 q * n * P2 j = c * n * P2 (q + j)
          have e1 : (c : Rat) * P2 q * ((n : Rat) * P2 j) = (n : Rat) * ((c : Rat) * P2 (q + j)) := by rw [P2_add]; grind
          have e2 : (n : Rat) * P2 (digits : Int) * P2 (i - (more : Int) - 1) = (n : Rat) * P2 ((digits : Int) + (i - (more : Int) - 1)) := by rw [P2_add]; grind
          rw [e1, e2] at q1
          have q2 := Rat.le_of_mul_le_mul_left q1 hnpos
          have q3 : (c : Rat) * P2 (q + j) < P2 ((digits : Int) + (q + j)) := by
            rw [P2_add (digits : Int), P2_nat]
            exact Rat.mul_lt_mul_of_pos_right (natCast_lt hcl) (P2_pos _)
          have q4 := P2_lt (lelt q2 q3)
          omega
        · exact h'
      obtain ⟨u, hu⟩ := Int.eq_ofNat_of_zero_le (show 0 ≤ q + j - (i - (more : Int)) by omega)
      have e3 : (c : Rat) * P2 q * ((n : Rat) * P2 j) = ((c * 2 ^ u * n : Nat) : Rat) * P2 (i - (more : Int)) := by
        rw [Rat.natCast_mul, Rat.natCast_mul, ← P2_nat]
        have : P2 q * P2 j = P2 (u : Int) * P2 (i - (more : Int)) := by rw [← P2_add, ← P2_add]; congr 1; omega
        grind
      rw [e3] at hD3
      have e4 : (D : Rat) = ((c * 2 ^ u * n : Nat) : Rat) := by
        have h1 : (D : Rat) * P2 (i - (more : Int)) / P2 (i - (more : Int)) = ((c * 2 ^ u * n : Nat) : Rat) * P2 (i - (more : Int)) / P2 (i - (more : Int)) := by rw [hD3]
        rw [Rat.mul_div_cancel (by grind), Rat.mul_div_cancel (by grind)] at h1
        exact h1
      exact h (hdv _ (Rat.natCast_inj.1 e4))
/-- How near a quotient is: a little more than half a unit. -/
def UD (k : FloatKind) : Rat := UL k + UL k
def NearQ (k : FloatKind) (z x : Rat) : Prop := (0 ≤ x → z ≤ x + (x * UD k + (EL k + EL k)) ∧ x ≤ z + (x * UD k + (EL k + EL k)) ∧ 0 ≤ z) ∧ (x ≤ 0 → z ≤ x + (-x * UD k + (EL k + EL k)) ∧ x ≤ z + (-x * UD k + (EL k + EL k)) ∧ z ≤ 0)

theorem UL_small (k : FloatKind) : 0 < UL k ∧ UL k ≤ 1 / 16777216 := by
  cases k
  · exact ⟨P2_pos _, by decide +kernel⟩
  · exact ⟨P2_pos _, by decide +kernel⟩
theorem EL_small (k : FloatKind) : 0 < EL k ∧ EL k ≤ P2 (-150) := by
  cases k
  · exact ⟨P2_pos _, Rat.le_refl⟩
  · exact ⟨P2_pos _, P2_le (by decide)⟩
theorem div_le_of {a b c : Rat} (hc : 0 < c) (h : a ≤ b * c) : a / c ≤ b := by
  have : a / c * c ≤ b * c := by rw [Rat.div_mul_cancel (by grind)]; exact h
  exact Rat.le_of_mul_le_mul_right this hc
theorem le_div_of {a b c : Rat} (hc : 0 < c) (h : a * c ≤ b) : a ≤ b / c := by
  have : a * c ≤ b / c * c := by rw [Rat.div_mul_cancel (by grind)]; exact h
  exact Rat.le_of_mul_le_mul_right this hc
theorem sgn_div (s t : Bool) (x y : Rat) : sgn s x / sgn t y = sgn (s ^^ t) (x / y) := by
  unfold sgn
  cases s <;> cases t <;> simp <;> grind
theorem P2_half' (a : Int) : P2 (a - 1) = P2 a / 2 := by have := P2_half a; grind
theorem div_fin {k : FloatKind} {a b : Nat} {x y : Rat} (ha : Fin k a x) (hb : Fin k b y) (hy : y ≠ 0) (h1 : x / y ≤ P2 59) (h2 : -(x / y) ≤ P2 59) :
    ∃ r z, floatBits .quo k a b = some r ∧ Fin k r z ∧ NearQ k z (x / y) ∧ (RepS k (x / y) → z = x / y) := by
  obtain ⟨s, m, i, hda, rfl⟩ := ha
  obtain ⟨t, n, j, hdb, rfl⟩ := hb
  have hn : n ≠ 0 := by
    rintro rfl
    apply hy
    have : ((0 : Nat) : Rat) * P2 j = 0 := by show (0 : Rat) * _ = 0; grind
    unfold sgn
    split <;> rw [this] <;> grind
  have hX := val_nonneg m i
  have hY : 0 < (n : Rat) * P2 j := Rat.mul_pos (natCast_lt (Nat.pos_of_ne_zero hn)) (P2_pos j)
  obtain ⟨c, p, hq, q1, q2, q3⟩ := quo_val (digits := k.format.fractionBits + 2) (s := s) (t := t) (m := m) (n := n) (i := i) (j := j) hn
  have hxy := sgn_div s t ((m : Rat) * P2 i) ((n : Rat) * P2 j)
  have hQ := val_nonneg c p
  have hdl : P2 (-((k.format.fractionBits + 2 : Nat) : Int)) = UL k / 2 := by
    have hf := fb_is k
    have hU : UL k = P2 (-((k.format.fractionBits : Int) + 1)) := by rcases hf with h | h <;> exact h.2.2.2
    rw [hU, ← P2_half']
    congr 1
  rw [hdl] at q1 q2
  rw [hxy] at h1 h2 ⊢
  have hRY : (m : Rat) * P2 i / ((n : Rat) * P2 j) * ((n : Rat) * P2 j) = (m : Rat) * P2 i := Rat.div_mul_cancel (by grind)
  have hRx : ∀ cc q, (m : Rat) * P2 i / ((n : Rat) * P2 j) = cc * P2 q → (m : Rat) * P2 i = cc * P2 q * ((n : Rat) * P2 j) := fun cc q h => by rw [← h, hRY]
  have hR : 0 ≤ (m : Rat) * P2 i / ((n : Rat) * P2 j) := le_div_of hY (by grind)
  have hQx : (c : Rat) * P2 p * ((n : Rat) * P2 j) = (m : Rat) * P2 i → (c : Rat) * P2 p = (m : Rat) * P2 i / ((n : Rat) * P2 j) := fun h => by
    rw [← h, Rat.mul_div_cancel (by grind)]
  generalize (m : Rat) * P2 i / ((n : Rat) * P2 j) = R at *
  generalize (m : Rat) * P2 i = X at *
  generalize (n : Rat) * P2 j = Y at *
  have hUs := UL_small k
  have hEs := EL_small k
  have hRU : 0 ≤ R * UL k := Rat.mul_nonneg hR (Rat.le_of_lt hUs.1)
  -- the whole quotient against R
  have r1 : (c : Rat) * P2 p ≤ R + R * (UL k / 2) := by
    refine Rat.le_of_mul_le_mul_right (c := Y) ?_ hY
    have e : (R + R * (UL k / 2)) * Y = R * Y + R * Y * (UL k / 2) := by grind
    rw [e, hRY]
    exact q1
  have r2 : R ≤ (c : Rat) * P2 p + R * (UL k / 2) := by
    refine Rat.le_of_mul_le_mul_right (c := Y) ?_ hY
    have e : ((c : Rat) * P2 p + R * (UL k / 2)) * Y = (c : Rat) * P2 p * Y + R * Y * (UL k / 2) := by grind
    rw [e, hRY]
    exact q2
  have hR59 : R ≤ P2 59 := by
    unfold sgn at h1 h2
    split at h1
    · rename_i hs
      rw [if_pos hs] at h2
      grind
    · exact h1
  have h6059 := P2_half 60
  have e59 : P2 (60 - 1) = P2 59 := rfl
  have hQ60 : (c : Rat) * P2 p ≤ P2 60 := by
    have : R * UL k ≤ R * 1 := Rat.mul_le_mul_of_nonneg_left (by grind) hR
    grind
  have hqv : sgn (s ^^ t) ((c : Rat) * P2 p) = sgn (s ^^ t) ((c : Rat) * P2 p) := rfl
  obtain ⟨z, hz, hnear, hrep⟩ := encode_fin k (s ^^ t) c p _ hqv (by have := (sgn_abs (s ^^ t) _ hQ).1; grind) (by have := (sgn_abs (s ^^ t) _ hQ).2; grind)
  refine ⟨_, z, ?_, hz, ?_, ?_⟩
  · unfold FloatKind.decode at hda hdb
    simp only [floatBits, Format.div, hda, hdb, hq, Option.map_some]
    rfl
  · have hQU : (c : Rat) * P2 p * UL k ≤ R * UL k + R * (UL k / 2) * UL k := by
      have := mul_mono r1 (Rat.le_of_lt hUs.1)
      grind
    have hUU : R * (UL k / 2) * UL k ≤ R * UL k * (1 / 4) := by
      have e : R * (UL k / 2) * UL k = R * UL k * (UL k / 2) := by grind
      rw [e]
      exact Rat.mul_le_mul_of_nonneg_left (by grind) hRU
    unfold NearQ UD
    unfold Near sgn at hnear
    unfold sgn
    cases hst : (s ^^ t) with
    | false =>
      rw [hst] at hnear
      simp only [Bool.false_eq_true, if_false] at hnear ⊢
      refine ⟨fun h => ?_, fun h => ?_⟩
      · have := hnear.1 hQ
        grind
      · have z0 : R = 0 := by grind
        have z1 : (c : Rat) * P2 p = 0 := by rw [z0] at r1; grind
        have := hnear.2 (by grind)
        rw [z1] at this
        rw [z0]
        grind
    | true =>
      rw [hst] at hnear
      simp only [if_true] at hnear ⊢
      refine ⟨fun h => ?_, fun h => ?_⟩
      · have z0 : R = 0 := by grind
        have z1 : (c : Rat) * P2 p = 0 := by rw [z0] at r1; grind
        have := hnear.1 (by grind)
        rw [z1] at this
        rw [z0]
        grind
      · have := hnear.2 (by grind)
        grind
  · intro hr
    have hex : (c : Rat) * P2 p = R := by
      have main : ∀ (cc : Nat) (q : Int), R = (cc : Rat) * P2 q → cc < 2 ^ (k.format.fractionBits + 1) → (c : Rat) * P2 p = R := by
        intro cc q h hlt
        exact hQx (q3 cc q (hRx _ q h) (Nat.lt_of_lt_of_le hlt (Nat.pow_le_pow_right (by decide) (by omega))))
      have zero : R = 0 → (c : Rat) * P2 p = R := fun h => main 0 0 (by rw [h]; show (0 : Rat) = 0 * _; grind) (Nat.two_pow_pos _)
      unfold sgn at hr
      split at hr
      · rcases hr with ⟨cc, q, h, hl, _⟩ | ⟨cc, q, h, hl, _⟩
        · exact zero (by have := val_nonneg cc q; grind)
        · exact main cc q (by grind) hl
      · rcases hr with ⟨cc, q, h, hl, _⟩ | ⟨cc, q, h, hl, _⟩
        · exact main cc q h hl
        · exact zero (by have := val_nonneg cc q; grind)
    rw [hex] at hrep
    exact hrep hr
/-- A word that reads as a number has that number. -/
theorem fin_rep {k : FloatKind} {b : Nat} {x : Rat} (h : Fin k b x) : RepS k x := by
  obtain ⟨s, m, e, hd, rfl⟩ := h
  have key : m < 2 ^ (k.format.fractionBits + 1) ∧ k.format.leastPlace ≤ e := by
    unfold FloatKind.decode Format.read at hd
    simp only at hd
    have hB : (2 : Nat) ^ (k.format.fractionBits + 1) = 2 * k.format.binade := by unfold Format.binade; rw [Nat.pow_succ]; omega
    have hpos : 0 < k.format.binade := Nat.two_pow_pos _
    split at hd
    · injection hd with h1 h2 h3
      omega
    · split at hd
      · injection hd with h1 h2 h3
        have := Nat.mod_lt (b % k.format.signWeight) hpos
        omega
      · split at hd <;> cases hd
  unfold sgn
  cases s with
  | false => exact Or.inl ⟨m, e, rfl, key.1, key.2⟩
  | true => exact Or.inr ⟨m, e, by simp [Rat.neg_neg], key.1, key.2⟩
theorem rep_int (k : FloatKind) (n : Int) (h : n.natAbs < 2 ^ (k.format.fractionBits + 1)) : RepS k (n : Rat) := by
  have hlp : k.format.leastPlace ≤ 0 := by rcases fb_is k with h | h <;> omega
  rcases Int.lt_or_le n 0 with h0 | h0
  · refine Or.inr ⟨n.natAbs, 0, ?_, h, hlp⟩
    rw [← Rat.intCast_neg, ← show ((n.natAbs : Nat) : Int) = -n by omega, Rat.intCast_natCast]
    show _ = _ * (1 : Rat)
    grind
  · refine Or.inl ⟨n.natAbs, 0, ?_, h, hlp⟩
    rw [← Rat.intCast_natCast, show ((n.natAbs : Nat) : Int) = n by omega]
    show _ = _ * (1 : Rat)
    grind
theorem int_abs {n : Int} {c : Nat} (h : n.natAbs ≤ c) : (n : Rat) ≤ (c : Rat) ∧ -(n : Rat) ≤ (c : Rat) := by
  rw [← Rat.intCast_neg, ← Rat.intCast_natCast]
  exact ⟨Rat.intCast_le_intCast.2 (by omega), Rat.intCast_le_intCast.2 (by omega)⟩
/-- A whole number made a float: just it, if it is not too great. -/
theorem ofInt_fin (k : FloatKind) (n : Int) (h : n.natAbs ≤ 16777216) : Fin k (floatOfInt k n) (n : Rat) := by
  have hb : n.natAbs < 2 ^ (k.format.fractionBits + 1) ∨ n.natAbs = 16777216 := by
    rcases fb_is k with ⟨h', _⟩ | ⟨h', _⟩
    · rw [h']; omega
    · rw [h']; exact Or.inl (Nat.lt_of_le_of_lt h (by decide))
  have hc := int_abs h
  have h60 : ((16777216 : Nat) : Rat) ≤ P2 60 := by decide +kernel
  obtain ⟨z, hz, _, hr⟩ := encode_fin k (n < 0) n.natAbs 0 (n : Rat) (by
    unfold sgn
    have e1 : P2 0 = 1 := rfl
    rw [e1]
    by_cases h0 : n < 0
    · rw [decide_eq_true h0, if_pos rfl, ← Rat.intCast_natCast, show ((n.natAbs : Nat) : Int) = -n by omega, Rat.intCast_neg]
      grind
    · rw [decide_eq_false h0, if_neg (by decide), ← Rat.intCast_natCast, show ((n.natAbs : Nat) : Int) = n by omega]
      grind) (by grind) (by grind)
  have hrep : RepS k (n : Rat) := by
    rcases hb with h' | h'
    · exact rep_int k n h'
    · have hlp : k.format.leastPlace ≤ 24 := by rcases fb_is k with h | h <;> omega
      have e24 : P2 24 = ((16777216 : Nat) : Rat) := by decide +kernel
      have one : 1 < 2 ^ (k.format.fractionBits + 1) := Nat.one_lt_two_pow (by omega)
      rcases Int.lt_or_le n 0 with h0 | h0
      · refine Or.inr ⟨1, 24, ?_, one, hlp⟩
        rw [e24, ← Rat.intCast_neg, ← h', ← show ((n.natAbs : Nat) : Int) = -n by omega, Rat.intCast_natCast]
        show _ = (1 : Rat) * _
        grind
      · refine Or.inl ⟨1, 24, ?_, one, hlp⟩
        have e5 : ((n.natAbs : Nat) : Rat) = (n : Rat) := by rw [← Rat.intCast_natCast, show ((n.natAbs : Nat) : Int) = n by omega]
        rw [e24, ← h', e5]
        show _ = (1 : Rat) * _
        grind
  rw [hr hrep] at hz
  exact hz
theorem word_val (s : Bool) (m : Nat) (e : Int) (base : Int) (h : base ≤ e) : ((Ieee.signed s m (e - base).toNat : Int) : Rat) * P2 base = sgn s ((m : Rat) * P2 e) := by
  have := signed_val s m (e - base).toNat base
  rwa [show base + (((e - base).toNat : Nat) : Int) = e by omega] at this
theorem order_fin {k : FloatKind} {a b : Nat} {x y : Rat} (ha : Fin k a x) (hb : Fin k b y) : (k.format.order a b == some .lt) = decide (x < y) ∧ (k.format.order a b == some .eq) = decide (x = y) ∧ (k.format.order a b == some .gt) = decide (y < x) ∧ (k.format.order a b != some .eq) = !decide (x = y) := by
  obtain ⟨s, m, i, hda, rfl⟩ := ha
  obtain ⟨t, n, j, hdb, rfl⟩ := hb
  have e1 := word_val s m i (min i j) (Int.min_le_left ..)
  have e2 := word_val t n j (min i j) (Int.min_le_right ..)
  unfold FloatKind.decode at hda hdb
  have ho : k.format.order a b = some (compare (Ieee.signed s m (i - min i j).toNat) (Ieee.signed t n (j - min i j).toNat)) := by
    unfold Format.order
    rw [hda, hdb]
    rfl
  rw [ho, ← e1, ← e2]
  generalize Ieee.signed s m (i - min i j).toNat = A
  generalize Ieee.signed t n (j - min i j).toNat = B
  have hp := P2_pos (min i j)
  generalize P2 (min i j) = p at *
  have lt_iff : ∀ C D : Int, ((C : Rat) * p < (D : Rat) * p) ↔ C < D := by
    intro C D
    constructor
    · intro h
      rcases Int.lt_or_le C D with h' | h'
      · exact h'
      · have := mul_mono (Rat.intCast_le_intCast.2 h') (Rat.le_of_lt hp)
        grind
    · intro h
      exact Rat.mul_lt_mul_of_pos_right (Rat.intCast_lt_intCast.2 h) hp
  rcases Int.lt_trichotomy A B with h | h | h
  · have h1 := (lt_iff A B).2 h
    have hc : compare A B = .lt := by simp [compare, compareOfLessAndEq, h]
    rw [hc, decide_eq_true h1, decide_eq_false (show ¬ (A : Rat) * p = (B : Rat) * p by grind), decide_eq_false (show ¬ (B : Rat) * p < (A : Rat) * p by grind)]
    exact ⟨rfl, rfl, rfl, rfl⟩
  · subst h
    have hc : compare A A = .eq := by simp [compare, compareOfLessAndEq]
    rw [hc, decide_eq_false (show ¬ (A : Rat) * p < (A : Rat) * p by grind), decide_eq_true rfl]
    exact ⟨rfl, rfl, rfl, rfl⟩
  · have h1 := (lt_iff B A).2 h
    have hc : compare A B = .gt := by simp [compare, compareOfLessAndEq, Int.not_lt.2 (Int.le_of_lt h), show ¬ A = B by omega]
    rw [hc, decide_eq_false (show ¬ (A : Rat) * p < (B : Rat) * p by grind), decide_eq_false (show ¬ (A : Rat) * p = (B : Rat) * p by grind), decide_eq_true h1]
    exact ⟨rfl, rfl, rfl, rfl⟩
/-- float64 of a float32: the same number. -/
theorem widen_fin {b : Nat} {x : Rat} (h : Fin .f32 b x) (h1 : x ≤ P2 60) (h2 : -x ≤ P2 60) : ∃ r, floatToFloatBits .f32 b .f64 = some r ∧ Fin .f64 r x := by
  have hr := fin_rep h
  obtain ⟨s, m, e, hd, rfl⟩ := h
  obtain ⟨z, hz, _, hrep⟩ := encode_fin .f64 s m e _ rfl h1 h2
  have h64 : RepS .f64 (sgn s ((m : Rat) * P2 e)) := by
    have up : ∀ y, Rep .f32 y → Rep .f64 y := by
      rintro y ⟨n, p, hy, hn, hp⟩
      exact ⟨n, p, hy, Nat.lt_of_lt_of_le hn (by decide), Int.le_trans (by decide) hp⟩
    rcases hr with h | h
    · exact Or.inl (up _ h)
    · exact Or.inr (up _ h)
  rw [hrep h64] at hz
  refine ⟨FloatKind.f64.encode (.number s m e), ?_, hz⟩
  unfold floatToFloatBits
  rw [if_neg (by decide), hd]
  simp only
  obtain ⟨s', m', e', hd', _⟩ := hz
  rw [hd']
  simp [Datum.isInfinity]

/-! ### the sign turned -/
theorem neg_fin {k : FloatKind} {b : Nat} {x : Rat} (h : Fin k b x) : Fin k (Go.Op.negFloat k b) (-x) := by
  obtain ⟨s, m, e, hd, rfl⟩ := h
  refine ⟨!s, m, e, ?_, by unfold sgn; cases s <;> simp⟩
  have hw : k.format.signWeight = 2 ^ (k.format.exponentBits + k.format.fractionBits) := rfl
  have h1 : (b ^^^ 2 ^ (k.format.exponentBits + k.format.fractionBits)) % k.format.signWeight = b % k.format.signWeight := by
    rw [hw, Nat.xor_mod_two_pow, Nat.mod_self, Nat.xor_zero]
  have h2 : ((b ^^^ 2 ^ (k.format.exponentBits + k.format.fractionBits)) / k.format.signWeight % 2 == 1) = !(b / k.format.signWeight % 2 == 1) := by
    have t1 := Nat.testBit_eq_decide_div_mod_eq (x := b ^^^ 2 ^ (k.format.exponentBits + k.format.fractionBits)) (i := k.format.exponentBits + k.format.fractionBits)
    have t2 := Nat.testBit_eq_decide_div_mod_eq (x := b) (i := k.format.exponentBits + k.format.fractionBits)
    rw [Nat.testBit_xor, Nat.testBit_two_pow_self] at t1
    rw [hw]
    show decide _ = !decide _
    rw [← t1, ← t2]
    simp
  unfold FloatKind.decode at hd ⊢
  unfold Go.Op.negFloat
  unfold Format.read at hd ⊢
  simp only [h1, h2]
  simp only at hd
  split at hd
  · rename_i c
    rw [if_pos c]
    injection hd with a1 a2 a3
    rw [a1, a2, a3]
  · rename_i c
    rw [if_neg c]
    split at hd
    · rename_i c2
      rw [if_pos c2]
      injection hd with a1 a2 a3
      rw [a1, a2, a3]
    · split at hd <;> cases hd

/-! ### math.Round over words -/
theorem u64w (x : Int) : IntKind.u64.wrap x = x % 18446744073709551616 := by simp [IntKind.wrap, IntKind.bits, IntKind.signed]
theorem bv64 (x : Nat) : (BitVec.ofInt 64 (x : Int)).toNat = x % 18446744073709551616 := by
  rw [BitVec.toNat_ofInt]
  omega
theorem b_and (x y : Nat) : Go.bits .and .u64 (x : Int) (y : Int) = (((x % 18446744073709551616) &&& (y % 18446744073709551616) : Nat) : Int) := by
  have hlt : ((x % 18446744073709551616) &&& (y % 18446744073709551616) : Nat) < 2 ^ 64 := Nat.and_lt_two_pow _ (Nat.mod_lt _ (by decide))
  unfold Go.bits
  show IntKind.u64.wrap (((BitVec.ofInt 64 (x : Int)) &&& (BitVec.ofInt 64 (y : Int))).toNat : Int) = _
  rw [BitVec.toNat_and, bv64, bv64, u64w]
  omega
theorem b_or (x y : Nat) : Go.bits .or .u64 (x : Int) (y : Int) = (((x % 18446744073709551616) ||| (y % 18446744073709551616) : Nat) : Int) := by
  have hlt : ((x % 18446744073709551616) ||| (y % 18446744073709551616) : Nat) < 2 ^ 64 := Nat.or_lt_two_pow (Nat.mod_lt _ (by decide)) (Nat.mod_lt _ (by decide))
  unfold Go.bits
  show IntKind.u64.wrap (((BitVec.ofInt 64 (x : Int)) ||| (BitVec.ofInt 64 (y : Int))).toNat : Int) = _
  rw [BitVec.toNat_or, bv64, bv64, u64w]
  omega
theorem b_mask (x P : Nat) (hP : P ≤ 64) : Go.bits .and .u64 (x : Int) ((2 ^ P - 1 : Nat) : Int) = ((x % 2 ^ P : Nat) : Int) := by
  have h1 : 2 ^ P ≤ 2 ^ 64 := Nat.pow_le_pow_right (by decide) hP
  have h2 := Nat.two_pow_pos P
  rw [b_and, Nat.mod_eq_of_lt (show 2 ^ P - 1 < 18446744073709551616 by omega), Nat.and_two_pow_sub_one_eq_mod, show (18446744073709551616 : Nat) = 2 ^ 64 from rfl, Nat.mod_mod_of_dvd _ (Nat.pow_dvd_pow 2 hP)]
theorem b_top (x : Nat) : Go.bits .and .u64 (x : Int) 9223372036854775808 = ((x / 9223372036854775808 % 2 * 9223372036854775808 : Nat) : Int) := by
  have h := b_and x 9223372036854775808
  rw [show ((9223372036854775808 : Nat) : Int) = 9223372036854775808 from rfl] at h
  rw [h]
  congr 1
  apply Nat.eq_of_testBit_eq
  intro i
  rw [show x / 9223372036854775808 % 2 * 9223372036854775808 = (x / 2 ^ 63 % 2 ^ 1) * 2 ^ 63 from rfl, Nat.testBit_and, Nat.testBit_mul_two_pow, show (9223372036854775808 : Nat) % 18446744073709551616 = 2 ^ 63 from rfl, Nat.testBit_two_pow, show (18446744073709551616 : Nat) = 2 ^ 64 from rfl, Nat.testBit_mod_two_pow, Nat.testBit_mod_two_pow, Nat.testBit_div_two_pow]
  by_cases hi : 63 = i
  · subst hi
    simp
  · by_cases h2 : 63 ≤ i
    · have : ¬ (i - 63 < 1) := by omega
      simp [hi, this]
    · simp [hi, h2]
theorem b_clear (x P : Nat) (hP : P ≤ 64) : Go.bits .andNot .u64 (x : Int) ((2 ^ P - 1 : Nat) : Int) = ((x % 18446744073709551616 / 2 ^ P * 2 ^ P : Nat) : Int) := by
  have h1 : 2 ^ P ≤ 2 ^ 64 := Nat.pow_le_pow_right (by decide) hP
  have h2 := Nat.two_pow_pos P
  unfold Go.bits
  show IntKind.u64.wrap (((BitVec.ofInt 64 (x : Int)) &&& ~~~ (BitVec.ofInt 64 ((2 ^ P - 1 : Nat) : Int))).toNat : Int) = _
  have e : ((BitVec.ofInt 64 (x : Int)) &&& ~~~ (BitVec.ofInt 64 ((2 ^ P - 1 : Nat) : Int))).toNat = x % 18446744073709551616 / 2 ^ P * 2 ^ P := by
    apply Nat.eq_of_testBit_eq
    intro i
    rw [← BitVec.getLsbD, BitVec.getLsbD_and, BitVec.getLsbD_not, BitVec.getLsbD, BitVec.getLsbD, bv64, bv64, Nat.mod_eq_of_lt (show 2 ^ P - 1 < 18446744073709551616 by omega), Nat.testBit_two_pow_sub_one, Nat.testBit_mul_two_pow, Nat.testBit_div_two_pow]
    rw [show (18446744073709551616 : Nat) = 2 ^ 64 from rfl, Nat.testBit_mod_two_pow, Nat.testBit_mod_two_pow]
    by_cases hi : i < P
    · have : ¬ (P ≤ i) := by omega
      simp [hi, this]
    · have h3 : P ≤ i := by omega
      have h4 : i - P + P = i := by omega
      simp [hi, h3, h4]
      by_cases h5 : i < 64
      · simp [h5]
      · simp [h5]
  rw [e, u64w]
  have h3 : x % 18446744073709551616 / 2 ^ P * 2 ^ P ≤ x % 18446744073709551616 := Nat.div_mul_le_self _ _
  have h4 : x % 18446744073709551616 < 18446744073709551616 := Nat.mod_lt _ (by decide)
  omega

theorem word_fin (neg : Bool) (E F : Nat) (hF : F < 4503599627370496) (h1 : 1 ≤ E) (h2 : E < 2047) : Fin .f64 (FloatKind.f64.format.word neg (E * 4503599627370496 + F)) (sgn neg (((4503599627370496 + F : Nat) : Rat) * P2 ((E : Int) - 1075))) := by
  have hi : E * 4503599627370496 + F < FloatKind.f64.format.infRung := by
    show _ < 2047 * 2 ^ 52
    omega
  obtain ⟨m, e, hr, hc⟩ := read_rung FloatKind.f64.format neg (E * 4503599627370496 + F) hi
  have hb : FloatKind.f64.format.binade = 4503599627370496 := rfl
  have hl : FloatKind.f64.format.leastPlace = -1074 := rfl
  rw [hb, hl] at hc
  rcases hc with ⟨c1, _, _⟩ | ⟨_, c2, c3⟩
  · omega
  · refine ⟨neg, m, e, hr, ?_⟩
    have e1 : m = 4503599627370496 + F := by omega
    have e2 : e = (E : Int) - 1075 := by omega
    rw [e1, e2]
theorem word_fin0 (neg : Bool) : Fin .f64 (FloatKind.f64.format.word neg 0) 0 := by
  have hi : 0 < FloatKind.f64.format.infRung := by decide
  obtain ⟨m, e, hr, hc⟩ := read_rung FloatKind.f64.format neg 0 hi
  rcases hc with ⟨_, c2, _⟩ | ⟨c1, _, _⟩
  · refine ⟨neg, m, e, hr, ?_⟩
    rw [c2]
    unfold sgn
    cases neg <;> simp
  · exact absurd c1 (by decide)
theorem word_is (neg : Bool) (r : Nat) : FloatKind.f64.format.word neg r = (if neg = true then 9223372036854775808 else 0) + r := by
  unfold Format.word
  cases neg
  · simp
  · simp
    rfl
/-- A word's parts. -/
theorem fin_parts {b : Nat} {x : Rat} (h : Fin .f64 b x) : ∃ (neg : Bool) (E F : Nat), b % 18446744073709551616 = (if neg = true then 9223372036854775808 else 0) + (E * 4503599627370496 + F) ∧ F < 4503599627370496 ∧ E < 2047 ∧
    ((E = 0 ∧ x = sgn neg ((F : Rat) * P2 (-1074))) ∨ (1 ≤ E ∧ x = sgn neg (((4503599627370496 + F : Nat) : Rat) * P2 ((E : Int) - 1075)))) := by
  obtain ⟨s, m, e, hd, rfl⟩ := h
  have hs : FloatKind.f64.format.signWeight = 9223372036854775808 := rfl
  have hb : FloatKind.f64.format.binade = 4503599627370496 := rfl
  have hl : FloatKind.f64.format.leastPlace = -1074 := rfl
  have hi : FloatKind.f64.format.infRung = 9218868437227405312 := rfl
  unfold FloatKind.decode Format.read at hd
  simp only [hs, hb, hl, hi] at hd
  have hsg : ∀ neg : Bool, (b / 9223372036854775808 % 2 == 1) = neg → b % 18446744073709551616 = (if neg = true then 9223372036854775808 else 0) + b % 9223372036854775808 := by
    rintro neg rfl
    by_cases hc : b / 9223372036854775808 % 2 = 1
    · rw [if_pos (by simpa using hc)]; omega
    · rw [if_neg (by simpa using hc)]; omega
  by_cases c1 : b % 9223372036854775808 < 4503599627370496
  · rw [if_pos c1] at hd
    injection hd with d1 d2 d3
    refine ⟨s, 0, b % 9223372036854775808, by rw [hsg s d1]; omega, c1, by omega, Or.inl ⟨rfl, ?_⟩⟩
    rw [← d2, ← d3]
  · rw [if_neg c1] at hd
    by_cases c2 : b % 9223372036854775808 < 9218868437227405312
    · rw [if_pos c2] at hd
      injection hd with d1 d2 d3
      refine ⟨s, b % 9223372036854775808 / 4503599627370496, b % 9223372036854775808 % 4503599627370496, by rw [hsg s d1]; omega, Nat.mod_lt _ (by decide), by omega, Or.inr ⟨by omega, ?_⟩⟩
      rw [← d2, ← d3]
      congr 3
      omega
    · rw [if_neg c2] at hd
      split at hd <;> cases hd
theorem P2_split (a : Int) (n : Nat) : ((2 ^ n : Nat) : Rat) * P2 (a - n) = P2 a := by
  rw [← P2_nat, ← P2_add]
  congr 1
  omega
theorem sgn_int (neg : Bool) (n : Nat) : sgn neg (n : Rat) = (((if neg = true then -(n : Int) else n) : Int) : Rat) := by
  unfold sgn
  cases neg
  · simp [Rat.intCast_natCast]
  · simp [Rat.intCast_natCast, Rat.intCast_neg]
theorem sgn_near (neg : Bool) {a b e : Rat} (h1 : a ≤ b + e) (h2 : b ≤ a + e) : sgn neg a ≤ sgn neg b + e ∧ sgn neg b ≤ sgn neg a + e := by
  unfold sgn
  cases neg
  · exact ⟨h1, h2⟩
  · simp only [if_true]
    constructor <;> grind
theorem round_e (b : Nat) : math_Round.e b = ((b / 4503599627370496 % 2048 : Nat) : Int) := by
  unfold math_Round.e
  have h := b_mask (b / 4503599627370496) 11 (by decide)
  rw [show ((2 ^ 11 - 1 : Nat) : Int) = 2047 from rfl] at h
  rw [show ((b : Int) / 4503599627370496) = ((b / 4503599627370496 : Nat) : Int) by omega, h]

theorem P2_neg_nat (n : Nat) : ((2 ^ n : Nat) : Rat) * P2 (-(n : Int)) = 1 := by
  have h := P2_split 0 n
  rw [show (0 : Int) - n = -(n : Int) by omega] at h
  rw [h]
  rfl
theorem round_fin {b : Nat} {x : Rat} (h : Fin .f64 b x) (h1 : x ≤ P2 40) (h2 : -x ≤ P2 40) : ∃ (b' : Nat) (n : Int), math_Round.f b = some b' ∧ Fin .f64 b' (n : Rat) ∧ (n : Rat) ≤ x + 1 / 2 ∧ x ≤ (n : Rat) + 1 / 2 := by
  obtain ⟨neg, E, F, hb, hF, hE, hc⟩ := fin_parts h
  obtain ⟨S, hS⟩ : ∃ S : Nat, S = (if neg = true then 9223372036854775808 else 0) := ⟨_, rfl⟩
  have hS2 : S = 0 ∨ S = 9223372036854775808 := by rw [hS]; split <;> simp
  rw [← hS] at hb
  have he : math_Round.e b = (E : Int) := by rw [round_e]; omega
  have hhalf : P2 (-1) = 1 / 2 := by decide +kernel
  unfold math_Round.f math_Round.g
  rw [he]
  have htop : Go.bits .and .u64 (b : Int) 9223372036854775808 = ((S : Nat) : Int) := by rw [b_top]; omega
  have hlow : ∀ m : Nat, m < 9007199254740992 → ∀ e : Int, e ≤ -54 → (m : Rat) * P2 e ≤ 1 / 2 := fun m hm e he => by
    have a1 : (m : Rat) ≤ ((2 ^ 53 : Nat) : Rat) := natCast_le (by omega)
    have a2 := mul_mono a1 (Rat.le_of_lt (P2_pos e))
    have a3 : ((2 ^ 53 : Nat) : Rat) * P2 e = P2 (e + 53) := by
      rw [← P2_nat, ← P2_add]; congr 1; omega
    have a4 := P2_le (show e + 53 ≤ -1 by omega)
    rw [hhalf] at a4
    grind
  have hz : ∀ v : Rat, 0 ≤ v → v ≤ 1 / 2 → ((0 : Int) : Rat) ≤ sgn neg v + 1 / 2 ∧ sgn neg v ≤ ((0 : Int) : Rat) + 1 / 2 := fun v v0 v1 => by
    unfold sgn
    cases neg
    · simp only [if_false, Bool.false_eq_true]; constructor <;> grind
    · simp only [if_true]; constructor <;> grind
  by_cases c3 : (E : Int) < 1023
  · rw [if_pos c3]
    by_cases c4 : (E : Int) = 1022
    · rw [if_pos c4, htop]
      have hE2 : E = 1022 := by omega
      have hor : (Go.bits .or .u64 ((S : Nat) : Int) 4607182418800017408).toNat = S + (1023 * 4503599627370496 + 0) := by
        have := b_or S 4607182418800017408
        rw [show ((4607182418800017408 : Nat) : Int) = 4607182418800017408 from rfl] at this
        rw [this]
        rcases hS2 with rfl | rfl <;> decide
      rw [hor]
      have hw := word_fin neg 1023 0 (by decide) (by decide) (by decide)
      rw [word_is, ← hS] at hw
      refine ⟨_, (if neg = true then -((1 : Nat) : Int) else ((1 : Nat) : Int)), rfl, ?_, ?_⟩
      · rw [← sgn_int]
        have e1 : (((4503599627370496 + 0 : Nat) : Rat) * P2 (((1023 : Nat) : Int) - 1075)) = ((1 : Nat) : Rat) := by
          have := P2_neg_nat 52
          exact this
        rw [e1] at hw
        exact hw
      · rw [← sgn_int]
        rcases hc with ⟨c0, _⟩ | ⟨_, rfl⟩
        · omega
        · have e2 : (E : Int) - 1075 = -53 := by omega
          rw [e2]
          have a1 : ((4503599627370496 : Nat) : Rat) ≤ ((4503599627370496 + F : Nat) : Rat) := natCast_le (by omega)
          have a2 : ((4503599627370496 + F : Nat) : Rat) ≤ ((9007199254740992 : Nat) : Rat) := natCast_le (by omega)
          have a3 := mul_mono a1 (Rat.le_of_lt (P2_pos (-53)))
          have a4 := mul_mono a2 (Rat.le_of_lt (P2_pos (-53)))
          have e3 : ((4503599627370496 : Nat) : Rat) * P2 (-53) = 1 / 2 := by decide +kernel
          have e4 : ((9007199254740992 : Nat) : Rat) * P2 (-53) = 1 := by decide +kernel
          rw [e3] at a3
          rw [e4] at a4
          have e5 : ((1 : Nat) : Rat) = 1 := rfl
          exact sgn_near neg (by rw [e5]; grind) (by rw [e5]; grind)
    · rw [if_neg c4, htop]
      refine ⟨_, 0, rfl, ?_, ?_⟩
      · have hw := word_fin0 neg
        rw [word_is, ← hS] at hw
        rw [Int.toNat_natCast]
        exact hw
      · rcases hc with ⟨c0, rfl⟩ | ⟨_, rfl⟩
        · exact hz _ (val_nonneg _ _) (hlow _ (by omega) _ (by decide))
        · exact hz _ (val_nonneg _ _) (hlow _ (by omega) _ (by omega))
  · rw [if_neg c3]
    rcases hc with ⟨c0, _⟩ | ⟨_, hx⟩
    · omega
    · by_cases c7 : (E : Int) < 1075
      · rw [if_pos c7]
        obtain ⟨j, hj⟩ : ∃ j : Nat, E = 1023 + j := ⟨E - 1023, by omega⟩
        obtain ⟨q, hq⟩ : ∃ q : Nat, j + q = 51 := ⟨51 - j, by omega⟩
        have ej : ((E : Int) - 1023).toNat = j := by omega
        have hpj : 0 < 2 ^ j := Nat.two_pow_pos j
        have hpq : 0 < 2 ^ q := Nat.two_pow_pos q
        have hjq : 2 ^ j * 2 ^ q = 2251799813685248 := by rw [← Nat.pow_add, hq]
        have hP : 2 ^ (q + 1) = 2 * 2 ^ q := by rw [Nat.pow_succ, Nat.mul_comm]
        have d1 : 2251799813685248 / 2 ^ j = 2 ^ q := by rw [← hjq, Nat.mul_div_cancel_left _ hpj]
        have d2 : 4503599627370495 / 2 ^ j = 2 ^ (q + 1) - 1 := by
          rw [hP]
          have e1 : 4503599627370495 = (2 ^ j - 1) + 2 ^ j * (2 * 2 ^ q - 1) := by
            rw [Nat.mul_sub, Nat.mul_one, Nat.mul_left_comm, hjq]
            have : 2 ^ j ≤ 2 * 2251799813685248 := by
              have := Nat.mul_le_mul_left (2 ^ j) (show 1 ≤ 2 ^ q by omega)
              omega
            omega
          rw [e1, Nat.add_mul_div_left _ _ hpj, Nat.div_eq_of_lt (by omega), Nat.zero_add]
        have n1 : ((b : Int) + 2251799813685248 / 2 ^ ((E : Int) - 1023).toNat) = ((b + 2 ^ q : Nat) : Int) := by
          rw [ej]
          have : (2251799813685248 : Int) / 2 ^ j = ((2251799813685248 / 2 ^ j : Nat) : Int) := by
            rw [Int.natCast_ediv, Int.natCast_pow]; rfl
          rw [this, d1]
          exact (Int.natCast_add _ _).symm
        have n2 : (4503599627370495 : Int) / 2 ^ ((E : Int) - 1023).toNat = ((2 ^ (q + 1) - 1 : Nat) : Int) := by
          rw [ej, ← d2, Int.natCast_ediv, Int.natCast_pow]; rfl
        have n3 : IntKind.u64.wrap ((b + 2 ^ q : Nat) : Int) = (((b + 2 ^ q) % 18446744073709551616 : Nat) : Int) := by
          rw [u64w]; exact (Int.natCast_emod _ _).symm
        rw [n1, n2, n3, b_clear _ (q + 1) (by omega), Int.toNat_natCast, Nat.mod_mod]
        have hqq : 2 ^ q ≤ 2251799813685248 := by
          have := Nat.mul_le_mul_right (2 ^ q) (show 1 ≤ 2 ^ j by omega)
          omega
        have s1 : (b + 2 ^ q) % 18446744073709551616 = S + (E * 4503599627370496 + (F + 2 ^ q)) := by
          rcases hS2 with rfl | rfl <;> omega
        have hbin : 2 ^ (q + 1) * 2 ^ j = 4503599627370496 := by rw [hP, Nat.mul_assoc, Nat.mul_comm (2 ^ q), hjq]
        obtain ⟨T, hT⟩ : ∃ T, S = 2 ^ (q + 1) * T := by
          rcases hS2 with rfl | rfl
          · exact ⟨0, by simp⟩
          · exact ⟨2 ^ j * 2048, by rw [← Nat.mul_assoc, hbin]⟩
        have s2 : (S + (E * 4503599627370496 + (F + 2 ^ q))) / 2 ^ (q + 1) * 2 ^ (q + 1) = S + (E * 4503599627370496 + (F + 2 ^ q) / 2 ^ (q + 1) * 2 ^ (q + 1)) := by
          have e1 : S + (E * 4503599627370496 + (F + 2 ^ q)) = (F + 2 ^ q) + 2 ^ (q + 1) * (T + E * 2 ^ j) := by
            rw [Nat.mul_add, ← hT, Nat.mul_left_comm, hbin]; omega
          rw [e1, Nat.add_mul_div_left _ _ (Nat.two_pow_pos _), Nat.add_mul, Nat.mul_comm (T + E * 2 ^ j), Nat.mul_add, ← hT, Nat.mul_left_comm, hbin]
          omega
        rw [s1, s2]
        obtain ⟨D, hD⟩ : ∃ D, D = (F + 2 ^ q) / 2 ^ (q + 1) := ⟨_, rfl⟩
        rw [← hD]
        have g1 : D * 2 ^ (q + 1) ≤ F + 2 ^ q := by rw [hD]; exact Nat.div_mul_le_self _ _
        have g2 : F + 2 ^ q < D * 2 ^ (q + 1) + 2 ^ (q + 1) := by
          rw [hD]
          have := Nat.lt_div_mul_add (a := F + 2 ^ q) (b := 2 ^ (q + 1)) (Nat.two_pow_pos _)
          exact this
        have g3 : D ≤ 2 ^ j := by
          have : D * 2 ^ (q + 1) < (2 ^ j + 1) * 2 ^ (q + 1) := by
            rw [Nat.add_mul, Nat.one_mul, Nat.mul_comm (2 ^ j), hbin, hP] 
            rw [hP] at g1
            omega
          have := Nat.lt_of_mul_lt_mul_right this
          omega
        have eE : (E : Int) - 1075 = -((q + 1 : Nat) : Int) := by omega
        have hval : (((4503599627370496 + D * 2 ^ (q + 1) : Nat) : Rat) * P2 ((E : Int) - 1075)) = ((2 ^ j + D : Nat) : Rat) := by
          have e1 : 4503599627370496 + D * 2 ^ (q + 1) = (2 ^ j + D) * 2 ^ (q + 1) := by rw [Nat.add_mul, Nat.mul_comm (2 ^ j), hbin]
          rw [e1, Rat.natCast_mul, eE, Rat.mul_assoc, P2_neg_nat, Rat.mul_one]
        refine ⟨_, (if neg = true then -((2 ^ j + D : Nat) : Int) else ((2 ^ j + D : Nat) : Int)), rfl, ?_, ?_⟩
        · rw [← sgn_int, ← hval]
          rcases Nat.lt_or_ge D (2 ^ j) with k1 | k1
          · have k2 : D * 2 ^ (q + 1) < 4503599627370496 := by
              rw [← hbin, Nat.mul_comm]
              exact Nat.mul_lt_mul_of_pos_left k1 (Nat.two_pow_pos _)
            have hw := word_fin neg E (D * 2 ^ (q + 1)) k2 (by omega) hE
            rw [word_is, ← hS] at hw
            exact hw
          · have k3 : D = 2 ^ j := by omega
            have k2 : D * 2 ^ (q + 1) = 4503599627370496 := by rw [k3, Nat.mul_comm, hbin]
            have hw := word_fin neg (E + 1) 0 (by decide) (by omega) (by omega)
            rw [word_is, ← hS] at hw
            rw [k2]
            have e1 : S + ((E + 1) * 4503599627370496 + 0) = S + (E * 4503599627370496 + 4503599627370496) := by omega
            rw [e1] at hw
            have e2 : (((4503599627370496 + 0 : Nat) : Rat) * P2 (((E + 1 : Nat) : Int) - 1075)) = (((4503599627370496 + 4503599627370496 : Nat) : Rat) * P2 ((E : Int) - 1075)) := by
              rw [show (((E + 1 : Nat) : Int) - 1075) = ((E : Int) - 1075) + 1 by omega, P2_add, show P2 1 = 2 by decide +kernel]
              rw [show ((4503599627370496 + 4503599627370496 : Nat) : Rat) = ((4503599627370496 + 0 : Nat) : Rat) * 2 by decide +kernel]
              grind
            rw [e2] at hw
            exact hw
        · rw [← sgn_int, ← hval, hx]
          have hpp : (0 : Rat) ≤ P2 ((E : Int) - 1075) := Rat.le_of_lt (P2_pos _)
          have hh : ((2 ^ q : Nat) : Rat) * P2 ((E : Int) - 1075) = 1 / 2 := by
            rw [eE, ← hhalf, ← P2_split (-1) q]
            congr 2
            omega
          have m1 : ((4503599627370496 + D * 2 ^ (q + 1) : Nat) : Rat) ≤ ((4503599627370496 + F : Nat) : Rat) + ((2 ^ q : Nat) : Rat) := by
            rw [← Rat.natCast_add]; exact natCast_le (by omega)
          have m2 : ((4503599627370496 + F : Nat) : Rat) ≤ ((4503599627370496 + D * 2 ^ (q + 1) : Nat) : Rat) + ((2 ^ q : Nat) : Rat) := by
            rw [← Rat.natCast_add]; exact natCast_le (by rw [hP] at g2 ⊢; omega)
          have m3 := mul_mono m1 hpp
          have m4 := mul_mono m2 hpp
          rw [Rat.add_mul, hh] at m3 m4
          exact sgn_near neg m3 m4
      · exfalso
        have a1 : ((4503599627370496 : Nat) : Rat) ≤ ((4503599627370496 + F : Nat) : Rat) := natCast_le (by omega)
        have a2 := mul_mono a1 (Rat.le_of_lt (P2_pos ((E : Int) - 1075)))
        have a3 := P2_le (show (0 : Int) ≤ (E : Int) - 1075 by omega)
        have e0 : P2 0 = 1 := by decide +kernel
        have e1 : ((4503599627370496 : Nat) : Rat) = P2 52 := by decide +kernel
        have e2 : P2 40 < P2 52 := by decide +kernel
        rw [e0] at a3
        rw [e1] at a2
        have a4 := Rat.mul_le_mul_of_nonneg_left a3 (Rat.le_of_lt (P2_pos 52))
        rw [hx] at h1 h2
        unfold sgn at h1 h2
        cases neg
        · simp only [if_false, Bool.false_eq_true] at h1; grind
        · simp only [if_true, Rat.neg_neg] at h2; grind

/-! ### the greater, the lesser; whole numbers -/
theorem max_fin {k : FloatKind} {a b : Nat} {x y : Rat} (ha : Fin k a x) (hb : Fin k b y) : fmok k a b = true ∧ ∃ z, Fin k (fmx k a b) z ∧ (z = x ∨ z = y) ∧ x ≤ z ∧ y ≤ z := by
  obtain ⟨o1, o2, o3, _⟩ := order_fin ha hb
  unfold fmok fmx
  cases ho : k.format.order a b with
  | none =>
    rw [ho] at o1 o2 o3
    have n1 : ¬ x < y := by simpa using o1.symm
    have n2 : ¬ x = y := by simpa using o2.symm
    have n3 : ¬ y < x := by simpa using o3.symm
    grind
  | some o =>
    refine ⟨rfl, ?_⟩
    cases o with
    | lt =>
      rw [ho] at o1
      have n1 : x < y := by simpa using o1.symm
      exact ⟨y, hb, .inr rfl, by grind, by grind⟩
    | gt =>
      rw [ho] at o3
      have n1 : y < x := by simpa using o3.symm
      exact ⟨x, ha, .inl rfl, by grind, by grind⟩
    | eq =>
      rw [ho] at o2
      have n1 : x = y := by simpa using o2.symm
      subst n1
      show ∃ z, Fin k (if (k.decode a).neg then b else a) z ∧ _
      split
      · exact ⟨x, hb, .inl rfl, by grind, by grind⟩
      · exact ⟨x, ha, .inl rfl, by grind, by grind⟩
theorem min_fin {k : FloatKind} {a b : Nat} {x y : Rat} (ha : Fin k a x) (hb : Fin k b y) : fmok k a b = true ∧ ∃ z, Fin k (fmn k a b) z ∧ (z = x ∨ z = y) ∧ z ≤ x ∧ z ≤ y := by
  obtain ⟨o1, o2, o3, _⟩ := order_fin ha hb
  unfold fmok fmn
  cases ho : k.format.order a b with
  | none =>
    rw [ho] at o1 o2 o3
    have n1 : ¬ x < y := by simpa using o1.symm
    have n2 : ¬ x = y := by simpa using o2.symm
    have n3 : ¬ y < x := by simpa using o3.symm
    grind
  | some o =>
    refine ⟨rfl, ?_⟩
    cases o with
    | lt =>
      rw [ho] at o1
      have n1 : x < y := by simpa using o1.symm
      exact ⟨x, ha, .inl rfl, by grind, by grind⟩
    | gt =>
      rw [ho] at o3
      have n1 : y < x := by simpa using o3.symm
      exact ⟨y, hb, .inr rfl, by grind, by grind⟩
    | eq =>
      rw [ho] at o2
      have n1 : x = y := by simpa using o2.symm
      subst n1
      show ∃ z, Fin k (if (k.decode a).neg then a else b) z ∧ _
      split
      · exact ⟨x, ha, .inl rfl, by grind, by grind⟩
      · exact ⟨x, hb, .inl rfl, by grind, by grind⟩
/-- A number cut towards zero. -/
theorem cut_zero (neg : Bool) (n d : Nat) : Toward.zero.cut neg n d = n / 2 ^ d := by
  unfold Toward.cut
  simp only [Nat.shiftLeft_eq, Nat.one_mul]
  have hlog : n < 2 ^ (n.log2 + 1) := Nat.lt_log2_self
  rcases Nat.lt_or_ge (n.log2 + 2) d with hd | hd
  · have e1 : min d (n.log2 + 2) = n.log2 + 2 := Nat.min_eq_right (by omega)
    have h1 : 2 ^ (n.log2 + 1) ≤ 2 ^ (n.log2 + 2) := Nat.pow_le_pow_right (by decide) (by omega)
    have h2 : 2 ^ (n.log2 + 1) ≤ 2 ^ d := Nat.pow_le_pow_right (by decide) (by omega)
    rw [e1, Nat.div_eq_of_lt (by omega), Nat.div_eq_of_lt (by omega)]
    rfl
  · have e1 : min d (n.log2 + 2) = d := Nat.min_eq_left (by omega)
    rw [e1]
    simp
/-- Go's conversion of a float: towards zero. -/
theorem fi_fin {b : Nat} {x : Rat} (h : Fin .f64 b x) (h1 : x ≤ 32767) (h2 : -32768 ≤ x) : fiok .f64 b .i16 = true ∧ (0 ≤ x → ((fi .f64 b .i16 : Int) : Rat) ≤ x ∧ x < (fi .f64 b .i16 : Int) + 1) ∧ (x ≤ 0 → x ≤ ((fi .f64 b .i16 : Int) : Rat) ∧ ((fi .f64 b .i16 : Int) : Rat) < x + 1) := by
  obtain ⟨s, m, e, hd, rfl⟩ := h
  obtain ⟨N, hN⟩ : ∃ N : Nat, N = (m <<< e.toNat) / 2 ^ (-e).toNat := ⟨_, rfl⟩
  have hto : (FloatKind.f64.decode b).toInt .zero = some (Ieee.signed s N 0) := by
    rw [hd]
    unfold Datum.toInt Datum.integral
    simp only [cut_zero]
    rw [hN]
  have hval : ((N : Nat) : Rat) ≤ (m : Rat) * P2 e ∧ (m : Rat) * P2 e < ((N : Nat) : Rat) + 1 := by
    rcases Int.lt_or_le e 0 with he | he
    · obtain ⟨d, hd2⟩ : ∃ d : Nat, e = -(d : Int) := ⟨(-e).toNat, by omega⟩
      subst hd2
      have e1 : (-(d : Int)).toNat = 0 := by omega
      have e2 : (-(-(d : Int))).toNat = d := by omega
      rw [e1, e2, Nat.shiftLeft_zero] at hN
      have hp : (0 : Rat) ≤ P2 (-(d : Int)) := Rat.le_of_lt (P2_pos _)
      have u1 : N * 2 ^ d ≤ m := by rw [hN]; exact Nat.div_mul_le_self _ _
      have u2 : m < (N + 1) * 2 ^ d := by
        rw [hN, Nat.add_mul, Nat.one_mul]
        exact Nat.lt_div_mul_add (Nat.two_pow_pos _)
      have v1 := mul_mono (natCast_le u1) hp
      have v2 := Rat.mul_lt_mul_of_pos_right (natCast_lt u2) (P2_pos (-(d : Int)))
      rw [Rat.natCast_mul, Rat.mul_assoc, P2_neg_nat, Rat.mul_one] at v1 v2
      refine ⟨v1, ?_⟩
      rw [Rat.natCast_add] at v2
      exact v2
    · obtain ⟨d, hd2⟩ := Int.eq_ofNat_of_zero_le he
      subst hd2
      have e1 : ((d : Nat) : Int).toNat = d := by omega
      have e2 : (-((d : Nat) : Int)).toNat = 0 := by omega
      rw [e1, e2, Nat.shiftLeft_eq] at hN
      have : N = m * 2 ^ d := by rw [hN]; simp
      rw [this, Rat.natCast_mul, ← P2_nat]
      constructor <;> grind
  have hsg : Ieee.signed s N 0 = if s = true then -(N : Int) else (N : Int) := by
    unfold Ieee.signed
    cases s <;> simp
  have hsR : ((Ieee.signed s N 0 : Int) : Rat) = sgn s ((N : Nat) : Rat) := by
    rw [hsg, sgn_int]
  have hbd : IntKind.i16.min ≤ Ieee.signed s N 0 ∧ Ieee.signed s N 0 ≤ IntKind.i16.max := by
    have r1 : ((Ieee.signed s N 0 : Int) : Rat) < ((32768 : Int) : Rat) := by
      rw [hsR]
      have : ((32768 : Int) : Rat) = 32768 := rfl
      rw [this]
      unfold sgn at h1 ⊢
      have := Rat.natCast_nonneg (a := N)
      cases s
      · simp only [if_false, Bool.false_eq_true] at h1 ⊢; grind
      · simp only [if_true] at h1 ⊢; grind
    have r2 : ((-32769 : Int) : Rat) < ((Ieee.signed s N 0 : Int) : Rat) := by
      rw [hsR]
      have : ((-32769 : Int) : Rat) = -32769 := rfl
      rw [this]
      unfold sgn at h2 ⊢
      have := Rat.natCast_nonneg (a := N)
      cases s
      · simp only [if_false, Bool.false_eq_true] at h2 ⊢; grind
      · simp only [if_true] at h2 ⊢; grind
    have r3 := Rat.intCast_lt_intCast.1 r1
    have r4 := Rat.intCast_lt_intCast.1 r2
    have m1 : IntKind.i16.min = -32768 := by decide
    have m2 : IntKind.i16.max = 32767 := by decide
    omega
  have hv : floatToIntVal .f64 b .i16 = some (Ieee.signed s N 0) := by
    unfold floatToIntVal
    rw [hto]
    exact if_pos hbd
  unfold fiok fi
  rw [hv]
  refine ⟨rfl, ?_⟩
  show (0 ≤ _ → ((Ieee.signed s N 0 : Int) : Rat) ≤ _ ∧ _) ∧ (_ → _ ≤ ((Ieee.signed s N 0 : Int) : Rat) ∧ ((Ieee.signed s N 0 : Int) : Rat) < _)
  show (0 ≤ _ → _ ∧ _ < ((Ieee.signed s N 0 : Int) : Rat) + 1) ∧ _
  rw [hsR]
  have hN0 := Rat.natCast_nonneg (a := N)
  have hx0 := val_nonneg m e
  unfold sgn
  cases s
  · simp only [if_false, Bool.false_eq_true]
    refine ⟨fun _ => ⟨hval.1, hval.2⟩, fun hh => ?_⟩
    constructor <;> grind
  · simp only [if_true]
    refine ⟨fun hh => ?_, fun _ => ?_⟩
    · constructor <;> grind
    · constructor <;> grind
/-- .. of a whole number. -/
theorem fi_int {b : Nat} {n : Int} (h : Fin .f64 b (n : Rat)) (h1 : n ≤ 32767) (h2 : -32768 ≤ n) : fiok .f64 b .i16 = true ∧ fi .f64 b .i16 = n := by
  have r1 : (n : Rat) ≤ 32767 := by have := Rat.intCast_le_intCast.2 h1; exact this
  have r2 : -32768 ≤ (n : Rat) := by have := Rat.intCast_le_intCast.2 h2; exact this
  obtain ⟨a, p, q⟩ := fi_fin h r1 r2
  refine ⟨a, ?_⟩
  rcases Int.le_total 0 n with hn | hn
  · obtain ⟨u, v⟩ := p (by have := Rat.intCast_le_intCast.2 hn; exact this)
    have u' := Rat.intCast_le_intCast.1 u
    have v' : (n : Rat) < ((fi .f64 b .i16 + 1 : Int) : Rat) := by rw [Rat.intCast_add]; exact v
    have := Rat.intCast_lt_intCast.1 v'
    omega
  · obtain ⟨u, v⟩ := q (by have := Rat.intCast_le_intCast.2 hn; exact this)
    have u' := Rat.intCast_le_intCast.1 u
    have v' : ((fi .f64 b .i16 : Int) : Rat) < ((n + 1 : Int) : Rat) := by rw [Rat.intCast_add]; exact v
    have := Rat.intCast_lt_intCast.1 v'
    omega

/-! ### the operations, with bounds on what they are off by -/
def Cl (z x e : Rat) : Prop := z ≤ x + e ∧ x ≤ z + e
theorem Near.cl {k : FloatKind} {z x B : Rat} (h : Near k z x) (h1 : x ≤ B) (h2 : -x ≤ B) : Cl z x (B * UL k + EL k) := by
  have hU := (UL_small k).1
  have e1 := mul_mono h1 (Rat.le_of_lt hU)
  have e2 := mul_mono h2 (Rat.le_of_lt hU)
  unfold Cl
  rcases (Rat.le_total : (0 : Rat) ≤ x ∨ x ≤ 0) with h0 | h0
  · have := h.1 h0
    grind
  · have := h.2 h0
    grind
theorem NearQ.cl {k : FloatKind} {z x B : Rat} (h : NearQ k z x) (h1 : x ≤ B) (h2 : -x ≤ B) : Cl z x (B * UD k + (EL k + EL k)) := by
  have hU : 0 < UD k := by unfold UD; have := (UL_small k).1; grind
  have e1 := mul_mono h1 (Rat.le_of_lt hU)
  have e2 := mul_mono h2 (Rat.le_of_lt hU)
  unfold Cl
  rcases (Rat.le_total : (0 : Rat) ≤ x ∨ x ≤ 0) with h0 | h0
  · have := h.1 h0
    grind
  · have := h.2 h0
    grind
theorem Cl.mono {a b e f : Rat} (h : Cl a b e) (k : e ≤ f) : Cl a b f := by unfold Cl at *; grind
theorem u64_ : UL .f64 ≤ 1 / 8000000000000000 ∧ EL .f64 ≤ 1 / 1000000000000000000 := by
  refine ⟨by decide +kernel, ?_⟩
  have h2 := P2_le (show (-1075 : Int) ≤ -63 by decide)
  have h3 : P2 (-63) ≤ 1 / 1000000000000000000 := by decide +kernel
  have h1 : EL .f64 = P2 (-1075) := by unfold EL; congr 1
  rw [h1]
  grind
theorem u32_ : UL .f32 ≤ 1 / 16000000 ∧ EL .f32 ≤ 1 / 1000000000000000000 := by
  refine ⟨by decide +kernel, ?_⟩
  have h2 := P2_le (show (-150 : Int) ≤ -63 by decide)
  have h3 : P2 (-63) ≤ 1 / 1000000000000000000 := by decide +kernel
  have h1 : EL .f32 = P2 (-150) := by unfold EL; congr 1
  rw [h1]
  grind
theorem p60_ : (1000000000 : Rat) ≤ P2 60 ∧ (1000000000 : Rat) ≤ P2 59 := by decide +kernel
theorem fv_of {op : BinOp} {k : FloatKind} {a b r : Nat} (h : floatBits op k a b = some r) : fok op k a b = true ∧ fv op k a b = r := by
  unfold fok fv
  rw [h]
  exact ⟨rfl, rfl⟩
theorem add64 {a b : Nat} {x y : Rat} (ha : Fin .f64 a x) (hb : Fin .f64 b y) (h1 : x + y ≤ 4000000) (h2 : -(x + y) ≤ 4000000) : fok .add .f64 a b = true ∧ ∃ z, Fin .f64 (fv .add .f64 a b) z ∧ Cl z (x + y) (1 / 1000000000) := by
  obtain ⟨r, z, hr, hz, hn, _⟩ := add_fin ha hb (by have := p60_; grind) (by have := p60_; grind)
  obtain ⟨f1, f2⟩ := fv_of hr
  exact ⟨f1, z, by rw [f2]; exact hz, (hn.cl h1 h2).mono (by have := u64_; grind)⟩
theorem sub64 {a b : Nat} {x y : Rat} (ha : Fin .f64 a x) (hb : Fin .f64 b y) (h1 : x - y ≤ 4000000) (h2 : -(x - y) ≤ 4000000) : fok .sub .f64 a b = true ∧ ∃ z, Fin .f64 (fv .sub .f64 a b) z ∧ Cl z (x - y) (1 / 1000000000) := by
  obtain ⟨r, z, hr, hz, hn, _⟩ := sub_fin ha hb (by have := p60_; grind) (by have := p60_; grind)
  obtain ⟨f1, f2⟩ := fv_of hr
  exact ⟨f1, z, by rw [f2]; exact hz, (hn.cl h1 h2).mono (by have := u64_; grind)⟩
theorem mul64 {a b : Nat} {x y : Rat} (ha : Fin .f64 a x) (hb : Fin .f64 b y) (h1 : x * y ≤ 1000000000) (h2 : -(x * y) ≤ 1000000000) : fok .mul .f64 a b = true ∧ ∃ z, Fin .f64 (fv .mul .f64 a b) z ∧ Cl z (x * y) (1 / 7000000) := by
  obtain ⟨r, z, hr, hz, hn, _⟩ := mul_fin ha hb (by have := p60_; grind) (by have := p60_; grind)
  obtain ⟨f1, f2⟩ := fv_of hr
  exact ⟨f1, z, by rw [f2]; exact hz, (hn.cl h1 h2).mono (by have := u64_; grind)⟩
theorem div64 {a b : Nat} {x y : Rat} (ha : Fin .f64 a x) (hb : Fin .f64 b y) (hy : y ≠ 0) (h1 : x / y ≤ 40000) (h2 : -(x / y) ≤ 40000) : fok .quo .f64 a b = true ∧ ∃ z, Fin .f64 (fv .quo .f64 a b) z ∧ Cl z (x / y) (1 / 1000000000) ∧ (RepS .f64 (x / y) → z = x / y) := by
  obtain ⟨r, z, hr, hz, hn, he⟩ := div_fin ha hb hy (by have := p60_; grind) (by have := p60_; grind)
  obtain ⟨f1, f2⟩ := fv_of hr
  exact ⟨f1, z, by rw [f2]; exact hz, (NearQ.cl hn h1 h2).mono (by unfold UD; have := u64_; grind), he⟩
theorem sub_int {k : FloatKind} {a b : Nat} {m n : Int} (ha : Fin k a (m : Rat)) (hb : Fin k b (n : Rat)) (h : (m - n).natAbs < 16777216) : fok .sub k a b = true ∧ Fin k (fv .sub k a b) ((m - n : Int) : Rat) := by
  have e : (m : Rat) - (n : Rat) = ((m - n : Int) : Rat) := (Rat.intCast_sub m n).symm
  obtain ⟨i1, i2⟩ := int_abs (n := m - n) (c := 16777216) (by omega)
  have hc : ((16777216 : Nat) : Rat) = 16777216 := rfl
  rw [hc] at i1 i2
  obtain ⟨r, z, hr, hz, hn, he⟩ := sub_fin ha hb (by rw [e]; have := p60_; grind) (by rw [e]; have := p60_; grind)
  obtain ⟨f1, f2⟩ := fv_of hr
  rw [e] at he
  have hf : (m - n).natAbs < 2 ^ (k.format.fractionBits + 1) := by
    rcases fb_is k with h | h <;> rw [h.1] <;> omega
  rw [he (rep_int k _ hf)] at hz
  exact ⟨f1, by rw [f2]; exact hz⟩
theorem mul_int {a b : Nat} {m n : Int} (ha : Fin .f64 a (m : Rat)) (hb : Fin .f64 b (n : Rat)) (h : (m * n).natAbs < 1000000000) : fok .mul .f64 a b = true ∧ Fin .f64 (fv .mul .f64 a b) ((m * n : Int) : Rat) := by
  have e : (m : Rat) * (n : Rat) = ((m * n : Int) : Rat) := (Rat.intCast_mul m n).symm
  obtain ⟨i1, i2⟩ := int_abs (n := m * n) (c := 1000000000) (by omega)
  have hc : ((1000000000 : Nat) : Rat) = 1000000000 := rfl
  rw [hc] at i1 i2
  obtain ⟨r, z, hr, hz, hn, he⟩ := mul_fin ha hb (by rw [e]; have := p60_; grind) (by rw [e]; have := p60_; grind)
  obtain ⟨f1, f2⟩ := fv_of hr
  rw [e] at he
  have hf : (m * n).natAbs < 2 ^ (FloatKind.f64.format.fractionBits + 1) := by
    show _ < 2 ^ 53
    omega
  rw [he (rep_int .f64 _ hf)] at hz
  exact ⟨f1, by rw [f2]; exact hz⟩
theorem div32 {a b : Nat} {x y : Rat} (ha : Fin .f32 a x) (hb : Fin .f32 b y) (hy : y ≠ 0) (h1 : x / y ≤ 1) (h2 : -(x / y) ≤ 1) : fok .quo .f32 a b = true ∧ ∃ z, Fin .f32 (fv .quo .f32 a b) z ∧ Cl z (x / y) (1 / 7000000) := by
  obtain ⟨r, z, hr, hz, hn, he⟩ := div_fin ha hb hy (by have := p60_; grind) (by have := p60_; grind)
  obtain ⟨f1, f2⟩ := fv_of hr
  exact ⟨f1, z, by rw [f2]; exact hz, (NearQ.cl hn h1 h2).mono (by unfold UD; have := u32_; grind)⟩
theorem mul32 {a b : Nat} {x y : Rat} (ha : Fin .f32 a x) (hb : Fin .f32 b y) (h1 : x * y ≤ 17000) (h2 : -(x * y) ≤ 17000) : fok .mul .f32 a b = true ∧ ∃ z, Fin .f32 (fv .mul .f32 a b) z ∧ Cl z (x * y) (1 / 900) := by
  obtain ⟨r, z, hr, hz, hn, he⟩ := mul_fin ha hb (by have := p60_; grind) (by have := p60_; grind)
  obtain ⟨f1, f2⟩ := fv_of hr
  exact ⟨f1, z, by rw [f2]; exact hz, (hn.cl h1 h2).mono (by have := u32_; grind)⟩
theorem wide {b : Nat} {x : Rat} (h : Fin .f32 b x) (h1 : x ≤ 1000000000) (h2 : -x ≤ 1000000000) : fcok .f32 b .f64 = true ∧ Fin .f64 (fc .f32 b .f64) x := by
  obtain ⟨r, hr, hf⟩ := widen_fin h (by have := p60_; grind) (by have := p60_; grind)
  unfold fcok fc
  rw [hr]
  exact ⟨rfl, hf⟩
/-- The words that the texts name. -/
theorem w16384_32 : Fin .f32 1182793728 16384 := ⟨false, 8388608, -9, by decide +kernel, by decide +kernel⟩
theorem w0_32 : Fin .f32 0 0 := ⟨false, 0, -149, by decide +kernel, by decide +kernel⟩
theorem w0_64 : Fin .f64 0 0 := ⟨false, 0, -1074, by decide +kernel, by unfold sgn; simp⟩
theorem w16384 : Fin .f64 4670232813583204352 16384 := ⟨false, 4503599627370496, -38, by decide +kernel, by decide +kernel⟩
theorem wm16384 : Fin .f64 13893604850437980160 (-16384) := ⟨true, 4503599627370496, -38, by decide +kernel, by decide +kernel⟩
theorem w101 : ∃ c : Rat, Fin .f64 4607227454796291113 c ∧ 10099 / 10000 ≤ c ∧ c ≤ 10101 / 10000 :=
  ⟨_, ⟨false, 4503599627370496 + 45035996273705, -52, by decide +kernel, rfl⟩, by decide +kernel, by decide +kernel⟩
theorem wm32768_32 : Fin .f32 3338665984 (-32768) := ⟨true, 8388608, -8, by decide +kernel, by decide +kernel⟩
theorem w32767_32 : Fin .f32 1191181824 32767 := ⟨false, 16776704, -9, by decide +kernel, by decide +kernel⟩

end Go.Proofs.Ytlbmfnjhpojghaa.Flt
namespace Go.Proofs.Ytlbmfnjhpojghaa.Pure
open Ieee Go.RowKit Go.Proofs.Ytlbmfnjhpojghaa.Flt Go.Proofs.Ytlbmfnjhpojghaa.PFnNormalized Go.Proofs.YtlbmfnjhpojghaaW Go.Proofs.YtlbmfnjhpojghaaW.PrintWords Go.Proofs.YtlbmfnjhpojghaaW.PrintLast Go.Proofs.YtlbmfnjhpojghaaW.PrintMore
theorem w64 (n : Int) (h : -9223372036854775808 ≤ n ∧ n ≤ 9223372036854775807) : wrap64 n = n := by unfold wrap64; omega
theorem i16w (n : Int) (h : -32768 ≤ n ∧ n ≤ 32767) : IntKind.i16.wrap n = n := by simp only [IntKind.wrap, IntKind.bits, IntKind.signed]; simp; omega
theorem wsucc (i : Nat) (h : i < 10000000000) : wrap64 ((i : Int) + 1) = ((i + 1 : Nat) : Int) := by rw [w64 _ (by omega)]; omega
theorem wpred (i : Nat) (h : i < 10000000000) : wrap64 (((i + 1 : Nat) : Int) - 1) = (i : Int) := by rw [w64 _ (by omega)]; omega
/-- It ends, and its answer is as said. -/
def EvP {α : Type} (g : Nat → Option α) (Q : α → Prop) : Prop := ∃ r, Ev g r ∧ Q r
theorem EvP.now {α : Type} {Q : α → Prop} (r : α) (h : Q r) : EvP (fun _ => some r) Q := ⟨r, Ev.now r, h⟩
theorem EvP.step {α : Type} {g f : Nat → Option α} {Q : α → Prop} (h : ∀ k, g (k + 1) = f k) (k : EvP f Q) : EvP g Q := by
  obtain ⟨r, hr, hq⟩ := k
  exact ⟨r, Ev.step h hr, hq⟩
theorem EvP.congr {α : Type} {g f : Nat → Option α} {Q : α → Prop} (h : ∀ k, g k = f k) (k : EvP f Q) : EvP g Q := by
  obtain ⟨r, hr, hq⟩ := k
  exact ⟨r, Ev.congr h hr, hq⟩
theorem EvP.bindP {α β : Type} {g : Nat → Option α} {f : Nat → α → Option β} {P : α → Prop} {Q : β → Prop} (h : EvP g P) (k : ∀ a, P a → EvP (fun n => f n a) Q) : EvP (fun n => (g n).bind (f n)) Q := by
  obtain ⟨a, ha, hp⟩ := h
  obtain ⟨r, hr, hq⟩ := k a hp
  exact ⟨r, Ev.bind ha hr, hq⟩
theorem EvP.mono {α : Type} {g : Nat → Option α} {P Q : α → Prop} (h : EvP g P) (k : ∀ a, P a → Q a) : EvP g Q := by
  obtain ⟨a, ha, hp⟩ := h
  exact ⟨a, ha, k a hp⟩
theorem EvP.done {α : Type} {a : Option α} {r : α} {Q : α → Prop} (h : a = some r) (hq : Q r) : EvP (fun _ => a) Q := ⟨r, ⟨0, fun _ _ => h⟩, hq⟩
/-! ### three numbers sorted -/
theorem less_is (a b : Int) : cmp_Less_int16.f a b = some (decide (a < b)) := by
  unfold cmp_Less_int16.f cmp_isNaN_int16.f
  simp
def Srt (a b c x y z : Int) : Prop := x ≤ y ∧ y ≤ z ∧ ∀ P : Int → Prop, P a → P b → P c → P x ∧ P y ∧ P z
theorem i_w : wrap64 (1 + 1) = 2 ∧ wrap64 (2 + 1) = 3 ∧ wrap64 (0 + 1) = 1 ∧ wrap64 (1 - 1) = 0 ∧ wrap64 (2 - 1) = 1 := by decide +kernel
theorem i_l0a (k : Nat) (xs : List Int) : slices_insertionSortOrdered_int16.l0 (k + 1) xs 0 3 1 = slices_insertionSortOrdered_int16.l1 k xs 0 3 1 1 := by
  rw [slices_insertionSortOrdered_int16.l0, if_pos (by decide)]
theorem i_l0b (k : Nat) (xs : List Int) : slices_insertionSortOrdered_int16.l0 (k + 1) xs 0 3 2 = slices_insertionSortOrdered_int16.l1 k xs 0 3 2 2 := by
  rw [slices_insertionSortOrdered_int16.l0, if_pos (by decide)]
theorem i_l0c (k : Nat) (xs : List Int) : slices_insertionSortOrdered_int16.l0 (k + 1) xs 0 3 3 = some xs := by
  rw [slices_insertionSortOrdered_int16.l0, if_neg (by decide)]
theorem i_l1a (k : Nat) (a b c i : Int) : slices_insertionSortOrdered_int16.l1 (k + 1) [a, b, c] 0 3 i 1 = slices_insertionSortOrdered_int16.j2 k [a, b, c] 0 3 i 1 (decide (b < a)) := by
  rw [slices_insertionSortOrdered_int16.l1, i_w.2.2.2.1, if_pos (by decide), if_pos (by decide), if_pos (by simp), if_pos (by decide), if_pos (by simp), less_is, Option.bind_some]
  rfl
theorem i_l1b (k : Nat) (a b c i : Int) : slices_insertionSortOrdered_int16.l1 (k + 1) [a, b, c] 0 3 i 2 = slices_insertionSortOrdered_int16.j2 k [a, b, c] 0 3 i 2 (decide (c < b)) := by
  rw [slices_insertionSortOrdered_int16.l1, i_w.2.2.2.2, if_pos (by decide), if_pos (by decide), if_pos (by simp), if_pos (by decide), if_pos (by simp), less_is, Option.bind_some]
  rfl
theorem i_l1c (k : Nat) (xs : List Int) (i : Int) : slices_insertionSortOrdered_int16.l1 (k + 1) xs 0 3 i 0 = slices_insertionSortOrdered_int16.j2 k xs 0 3 i 0 false := by
  rw [slices_insertionSortOrdered_int16.l1, if_neg (by decide)]
theorem i_j2a (k : Nat) (a b c i : Int) : slices_insertionSortOrdered_int16.j2 (k + 1) [a, b, c] 0 3 i 1 true = slices_insertionSortOrdered_int16.l1 k [b, a, c] 0 3 i 0 := by
  rw [slices_insertionSortOrdered_int16.j2, i_w.2.2.2.1, if_pos rfl, if_pos (by decide), if_pos (by simp), if_pos (by decide), if_pos (by simp)]
  rfl
theorem i_j2b (k : Nat) (a b c i : Int) : slices_insertionSortOrdered_int16.j2 (k + 1) [a, b, c] 0 3 i 2 true = slices_insertionSortOrdered_int16.l1 k [a, c, b] 0 3 i 1 := by
  rw [slices_insertionSortOrdered_int16.j2, i_w.2.2.2.2, if_pos rfl, if_pos (by decide), if_pos (by simp), if_pos (by decide), if_pos (by simp)]
  rfl
theorem i_j2c (k : Nat) (xs : List Int) (j : Int) : slices_insertionSortOrdered_int16.j2 (k + 1) xs 0 3 1 j false = slices_insertionSortOrdered_int16.l0 k xs 0 3 2 := by
  rw [slices_insertionSortOrdered_int16.j2, if_neg (by decide), i_w.1]
theorem i_j2d (k : Nat) (xs : List Int) (j : Int) : slices_insertionSortOrdered_int16.j2 (k + 1) xs 0 3 2 j false = slices_insertionSortOrdered_int16.l0 k xs 0 3 3 := by
  rw [slices_insertionSortOrdered_int16.j2, if_neg (by decide), i_w.2.1]
theorem ins_b (a b c : Int) (hab : a ≤ b) : ∃ x y z, slices_insertionSortOrdered_int16.l0 12 [a, b, c] 0 3 2 = some [x, y, z] ∧ Srt a b c x y z := by
  rw [i_l0b, i_l1b]
  by_cases h2 : c < b
  · rw [decide_eq_true h2, i_j2b, i_l1a]
    by_cases h3 : c < a
    · rw [decide_eq_true h3, i_j2a, i_l1c, i_j2d, i_l0c]
      exact ⟨c, a, b, rfl, by omega, by omega, fun P p q r => ⟨r, p, q⟩⟩
    · rw [decide_eq_false h3, i_j2d, i_l0c]
      exact ⟨a, c, b, rfl, by omega, by omega, fun P p q r => ⟨p, r, q⟩⟩
  · rw [decide_eq_false h2, i_j2d, i_l0c]
    exact ⟨a, b, c, rfl, by omega, by omega, fun P p q r => ⟨p, q, r⟩⟩
theorem ins3 (a b c : Int) : ∃ (k : Nat) (x y z : Int), slices_insertionSortOrdered_int16.f k [a, b, c] 0 3 = some [x, y, z] ∧ Srt a b c x y z := by
  by_cases h1 : b < a
  · obtain ⟨x, y, z, h, s1, s2, s3⟩ := ins_b b a c (by omega)
    refine ⟨17, x, y, z, ?_, s1, s2, fun P p q r => s3 P q p r⟩
    rw [slices_insertionSortOrdered_int16.f, i_w.2.2.1, i_l0a, i_l1a, decide_eq_true h1, i_j2a, i_l1c, i_j2c]
    exact h
  · obtain ⟨x, y, z, h, s⟩ := ins_b a b c (by omega)
    refine ⟨15, x, y, z, ?_, s⟩
    rw [slices_insertionSortOrdered_int16.f, i_w.2.2.1, i_l0a, i_l1a, decide_eq_false h1, i_j2c]
    exact h
theorem sort3 (a b c : Int) : EvP (fun k => slices_Sort_int16_int16.f k [a, b, c]) fun l => ∃ x y z, l = [x, y, z] ∧ Srt a b c x y z := by
  obtain ⟨k0, x, y, z, h, hs⟩ := ins3 a b c
  have hi : Ev (fun k => slices_insertionSortOrdered_int16.f k [a, b, c] 0 3) [x, y, z] := Ev.of (fun k => slices_insertionSortOrdered_int16.mono _ _ _ k) h
  have h3 : ((([a, b, c] : List Int).length : Int)) = 3 := rfl
  have hb : bits_Len.f (IntKind.u64.wrap (((([a, b, c] : List Int).length : Int)))) = some 2 := by rw [h3]; decide +kernel
  have hp : Ev (fun k => slices_pdqsortOrdered_int16.f k [a, b, c] 0 3 2) [x, y, z] := by
    refine Ev.step (f := fun k => slices_pdqsortOrdered_int16.l0 k [a, b, c] 0 3 2 true) (fun k => by rw [slices_pdqsortOrdered_int16.f]) ?_
    refine Ev.step (f := fun k => (slices_insertionSortOrdered_int16.f k [a, b, c] 0 3).bind fun t => some t) (fun k => by rw [slices_pdqsortOrdered_int16.l0, if_pos (by decide +kernel)]) ?_
    exact Ev.bind hi (Ev.now _)
  refine ⟨[x, y, z], ?_, x, y, z, rfl, hs⟩
  unfold slices_Sort_int16_int16.f
  rw [hb, h3]
  exact Ev.bind (Ev.now 2) (Ev.bind hp (Ev.now _))
/-! ### segments -/
def at48 (l : List S48) (i : Nat) : S48 := l.getD i z48
theorem rd48 (l : List S48) (i : Nat) : rd_T48 l (i : Int) = at48 l i := rfl
structure Seg (l : List S48) : Prop where
  len : 2 ≤ l.length ∧ l.length ≤ 8
  bd : ∀ i, i < l.length → -16384 ≤ (at48 l i).f0 ∧ (at48 l i).f0 ≤ 16384 ∧ -16384 ≤ (at48 l i).f1 ∧ (at48 l i).f1 ≤ 16384
  up : ∀ i, i + 1 < l.length → (at48 l i).f0 < (at48 l (i + 1)).f0 ∧ (at48 l i).f1 ≤ (at48 l (i + 1)).f1
  fst : (at48 l 0).f0 = -16384
  lst : (at48 l (l.length - 1)).f0 = 16384
  sp : ∀ i, i + 1 < l.length → (at48 l (i + 1)).f0 - (at48 l i).f0 ≤ 16384 ∧ (at48 l (i + 1)).f1 - (at48 l i).f1 ≤ 16384
theorem at48_ins (l : List S48) (x : S48) (k : Nat) (hk : k ≤ l.length) (i : Nat) : at48 (l.take k ++ [x] ++ l.drop k) i = if i < k then at48 l i else if i = k then x else at48 l (i - 1) := by
  unfold at48
  have ht : (l.take k).length = k := by rw [List.length_take]; omega
  simp only [List.getD_eq_getElem?_getD]
  split
  · rename_i h
    rw [List.append_assoc, List.getElem?_append_left (by omega), List.getElem?_take_of_lt h]
  · rename_i h
    split
    · rename_i h2
      subst h2
      rw [List.append_assoc, List.getElem?_append_right (by omega), ht, Nat.sub_self]
      rfl
    · rename_i h2
      rw [List.getElem?_append_right (by rw [List.length_append, ht, List.length_singleton]; omega), List.length_append, ht, List.length_singleton, List.getElem?_drop]
      congr 2
      omega
theorem seg_ins {l : List S48} (h : Seg l) (x : S48) (k : Nat) (h0 : k + 1 < l.length) (hl : l.length < 8) (h1 : (at48 l k).f0 < x.f0) (h2 : x.f0 < (at48 l (k + 1)).f0) (h3 : (at48 l k).f1 ≤ x.f1) (h4 : x.f1 ≤ (at48 l (k + 1)).f1) : Seg (l.take (k + 1) ++ [x] ++ l.drop (k + 1)) := by
  have hlen : (l.take (k + 1) ++ [x] ++ l.drop (k + 1)).length = l.length + 1 := by
    rw [List.length_append, List.length_append, List.length_take, List.length_drop, List.length_singleton]; omega
  have ha := at48_ins l x (k + 1) (by omega)
  have b1 := h.bd k (by omega)
  have b2 := h.bd (k + 1) (by omega)
  have c1 := h.sp k (by omega)
  refine ⟨by rw [hlen]; have := h.len; omega, fun i hi => ?_, fun i hi => ?_, ?_, ?_, fun i hi => ?_⟩
  · rw [hlen] at hi
    rw [ha i]
    split
    · exact h.bd i (by omega)
    · split
      · omega
      · exact h.bd (i - 1) (by omega)
  · rw [hlen] at hi
    rw [ha i, ha (i + 1)]
    by_cases c1 : i + 1 < k + 1
    · rw [if_pos (by omega), if_pos c1]
      exact h.up i (by omega)
    · rw [if_neg c1]
      by_cases c2 : i + 1 = k + 1
      · rw [if_pos (by omega), if_pos c2]
        have : i = k := by omega
        subst this
        exact ⟨h1, h3⟩
      · rw [if_neg c2, if_neg (by omega)]
        by_cases c3 : i = k + 1
        · rw [if_pos c3]
          have : i + 1 - 1 = k + 1 := by omega
          rw [this]
          exact ⟨h2, h4⟩
        · rw [if_neg c3]
          have e : i + 1 - 1 = (i - 1) + 1 := by omega
          rw [e]
          exact h.up (i - 1) (by omega)
  · rw [ha 0, if_pos (by omega)]
    exact h.fst
  · rw [hlen, ha, if_neg (by omega), if_neg (by omega), Nat.add_sub_cancel]
    exact h.lst
  · rw [hlen] at hi
    rw [ha i, ha (i + 1)]
    by_cases c1 : i + 1 < k + 1
    · rw [if_pos c1, if_pos (show i < k + 1 by omega)]
      exact h.sp i (by omega)
    · rw [if_neg c1]
      by_cases c2 : i + 1 = k + 1
      · rw [if_pos c2, if_pos (show i < k + 1 by omega)]
        have : i = k := by omega
        subst this
        omega
      · rw [if_neg c2, if_neg (show ¬ i < k + 1 by omega)]
        by_cases c3 : i = k + 1
        · rw [if_pos c3]
          have : i + 1 - 1 = k + 1 := by omega
          rw [this]
          omega
        · rw [if_neg c3]
          have e : i + 1 - 1 = (i - 1) + 1 := by omega
          rw [e]
          exact h.sp (i - 1) (by omega)
theorem rising_l0 {l : List S48} (h : Seg l) (hl : l.length < 8) (a b : Int) : ∀ (d i : Nat), i + 1 + d = l.length → EvP (fun k => spec_risingMap.l0 k l a b ((i + 1 : Nat) : Int)) fun r => Seg r ∧ r.length ≤ l.length + 1
  | 0, i, hd => by
    refine EvP.step (f := fun _ => some l) (fun k => ?_) (EvP.now _ ⟨h, by omega⟩)
    rw [spec_risingMap.l0, if_neg (by omega)]
  | d + 1, i, hd => by
    have next : EvP (fun k => spec_risingMap.j1 k l a b ((i + 1 : Nat) : Int) false) fun r => Seg r ∧ r.length ≤ l.length + 1 := by
      refine EvP.step (fun k => ?_) (rising_l0 h hl a b d (i + 1) (by omega))
      rw [spec_risingMap.j1, if_neg (by simp), wsucc _ (by have := h.len; omega)]
    have e1 : ∀ k, spec_risingMap.l0 (k + 1) l a b ((i + 1 : Nat) : Int) = if a > (at48 l i).f0 then spec_risingMap.j1 k l a b ((i + 1 : Nat) : Int) (decide (a < (at48 l (i + 1)).f0)) else spec_risingMap.j1 k l a b ((i + 1 : Nat) : Int) false := fun k => by
      rw [spec_risingMap.l0, if_pos (by omega), wpred i (by have := h.len; omega), if_pos (by omega), if_pos (by omega), rd48, if_pos (show (0 : Int) ≤ ((i + 1 : Nat) : Int) by omega), rd48]
    refine EvP.step e1 ?_
    by_cases c1 : a > (at48 l i).f0
    · refine EvP.congr (fun k => if_pos c1) ?_
      by_cases c2 : a < (at48 l (i + 1)).f0
      · have e2 : ∀ k, spec_risingMap.j1 (k + 1) l a b ((i + 1 : Nat) : Int) (decide (a < (at48 l (i + 1)).f0)) = if b < (at48 l i).f1 then spec_risingMap.j2 k l a b ((i + 1 : Nat) : Int) true else spec_risingMap.j2 k l a b ((i + 1 : Nat) : Int) (decide (b > (at48 l (i + 1)).f1)) := fun k => by
          rw [spec_risingMap.j1, decide_eq_true c2, if_pos rfl, wpred i (by have := h.len; omega), if_pos (by omega), if_pos (by omega), rd48, if_pos (show (0 : Int) ≤ ((i + 1 : Nat) : Int) by omega), if_pos (show ((i + 1 : Nat) : Int) < (l.length : Int) by omega), rd48]
        have stay : EvP (fun k => spec_risingMap.j2 k l a b ((i + 1 : Nat) : Int) true) fun r => Seg r ∧ r.length ≤ l.length + 1 :=
          EvP.step (f := fun _ => some l) (fun k => by rw [spec_risingMap.j2, if_pos rfl]) (EvP.now _ ⟨h, by omega⟩)
        refine EvP.step e2 ?_
        by_cases c3 : b < (at48 l i).f1
        · exact EvP.congr (fun k => if_pos c3) stay
        · refine EvP.congr (fun k => if_neg c3) ?_
          by_cases c4 : b > (at48 l (i + 1)).f1
          · rw [decide_eq_true c4]
            exact stay
          · rw [decide_eq_false c4]
            refine EvP.step (f := fun _ => some (l.take (i + 1) ++ [⟨a, b⟩] ++ l.drop (i + 1))) (fun k => ?_) (EvP.now _ ⟨seg_ins h ⟨a, b⟩ i (by omega) hl c1 c2 (show _ ≤ b by omega) (show b ≤ _ by omega), by rw [List.length_append, List.length_append, List.length_take, List.length_drop, List.length_singleton]; omega⟩)
            rw [spec_risingMap.j2, if_neg (by simp)]
            have ec : slices_Clone_2_int_2_int.f l = some l := by
              unfold slices_Clone_2_int_2_int.f
              rw [Option.bind_some, if_pos (by have := h.len; simp; omega)]
              simp
            have ei : slices_Insert_2_int_2_int.f l ((i + 1 : Nat) : Int) [⟨a, b⟩] = some (l.take (i + 1) ++ [⟨a, b⟩] ++ l.drop (i + 1)) := by
              unfold slices_Insert_2_int_2_int.f
              rw [if_pos ⟨by omega, by omega, rfl, by omega⟩, Int.toNat_natCast]
            rw [ec, Option.bind_some, ei, Option.bind_some]
      · rw [decide_eq_false c2]
        exact next
    · exact EvP.congr (fun k => if_neg c1) next
theorem rising_is {l : List S48} (h : Seg l) (hl : l.length < 8) (a b : Int) : EvP (fun k => spec_risingMap.f k l a b) fun r => Seg r ∧ r.length ≤ l.length + 1 := by
  have := h.len
  exact rising_l0 h hl a b (l.length - 1) 0 (by omega)

/-! ### axes, segments, coordinates -/
def AxOk (s : S92) : Prop := ∃ a u m : Int, s = ⟨floatOfInt .f32 a, floatOfInt .f32 u, floatOfInt .f32 m⟩ ∧ -8192 ≤ a ∧ a ≤ u ∧ u ≤ m ∧ m ≤ 8191
def CoOk (c : Nat) : Prop := ∃ n : Int, c = floatOfInt .f32 n ∧ -16384 ≤ n ∧ n ≤ 16383
/-- What SomeAxes makes. -/
structure Some3 (l1 : List (List S164)) (r : List S92 × List (List S48) × List Nat) : Prop where
  len : r.2.2.length = r.1.length ∧ r.1.length ≤ 4
  ax : ∀ s ∈ r.1, AxOk s
  co : ∀ c ∈ r.2.2, CoOk c
  sg0 : (l1.length : Int) = 0 → r.2.1 = []
  sg1 : ¬ (l1.length : Int) = 0 → r.2.1.length = r.1.length ∧ ∀ s ∈ r.2.1, Seg s
theorem wf16 {n : Int} (h : (Lit.int .i16 n).wf = true) : -32768 ≤ n ∧ n ≤ 32767 := by
  have m1 : IntKind.i16.min = -32768 := by decide
  have m2 : IntKind.i16.max = 32767 := by decide
  simp [Lit.wf, m1, m2] at h
  exact h
theorem tdiv4 {n : Int} (h : -32768 ≤ n ∧ n ≤ 32767) : -8192 ≤ IntKind.i16.wrap (Int.tdiv n 4) ∧ IntKind.i16.wrap (Int.tdiv n 4) ≤ 8191 := by
  have : -8192 ≤ Int.tdiv n 4 ∧ Int.tdiv n 4 ≤ 8191 := by
    rcases Int.le_total 0 n with h0 | h0
    · rw [Int.tdiv_eq_ediv_of_nonneg h0]; omega
    · have e : Int.tdiv n 4 = -(Int.tdiv (-n) 4) := by rw [Int.neg_tdiv, Int.neg_neg]
      rw [e, Int.tdiv_eq_ediv_of_nonneg (by omega)]; omega
  rw [i16w _ (by omega)]
  exact this
theorem tdiv2 {n : Int} (h : -32768 ≤ n ∧ n ≤ 32767) : -16384 ≤ IntKind.i16.wrap (Int.tdiv n 2) ∧ IntKind.i16.wrap (Int.tdiv n 2) ≤ 16383 := by
  have : -16384 ≤ Int.tdiv n 2 ∧ Int.tdiv n 2 ≤ 16383 := by
    rcases Int.le_total 0 n with h0 | h0
    · rw [Int.tdiv_eq_ediv_of_nonneg h0]; omega
    · have e : Int.tdiv n 2 = -(Int.tdiv (-n) 2) := by rw [Int.neg_tdiv, Int.neg_neg]
      rw [e, Int.tdiv_eq_ediv_of_nonneg (by omega)]; omega
  rw [i16w _ (by omega)]
  exact this
theorem foi0 : floatOfInt .f32 0 = 0 := by decide +kernel
theorem seg0 : Seg [⟨-16384, -16384⟩, ⟨0, 0⟩, ⟨16384, 16384⟩] := by
  refine ⟨by decide, fun i hi => ?_, fun i hi => ?_, rfl, rfl, fun i hi => ?_⟩
  · have : i = 0 ∨ i = 1 ∨ i = 2 := by simp at hi; omega
    rcases this with rfl | rfl | rfl <;> decide
  · have : i = 0 ∨ i = 1 := by simp at hi; omega
    rcases this with rfl | rfl <;> decide
  · have : i = 0 ∨ i = 1 := by simp at hi; omega
    rcases this with rfl | rfl <;> decide
theorem axes_l3 (x1 : List (List S164)) (x6 : List S92) (x7 : List (List S48)) (x8 : List Nat) (i : Nat) (hi : i < x1.length) (Q : List S92 × List (List S48) × List Nat → Prop) (x83 : Int)
    (hQ : ∀ s, Seg s → EvP (fun k => spec_SomeAxes.l1 k x1 x6 (x7 ++ [s]) x8 x83 (((i + 1 : Nat)) : Int)) Q) (h7 : x7.length < 100) (hi2 : i < 1000) :
    ∀ (d j : Nat) (s : List S48), j + d = 5 → Seg s → s.length ≤ 3 + j → EvP (fun k => spec_SomeAxes.l3 k x1 x6 x7 x8 (i : Int) s (j : Int) x83 (i : Int)) Q := by
  intro d
  induction d with
  | zero =>
    intro j s hj hs hl
    have : j = 5 := by omega
    subst this
    have e : ∀ k, spec_SomeAxes.l3 (k + 1) x1 x6 x7 x8 (i : Int) s ((5 : Nat) : Int) x83 (i : Int) = spec_SomeAxes.j5 k x1 x6 x7 x8 (i : Int) s ((5 : Nat) : Int) x83 (i : Int) false := fun k => by
      rw [spec_SomeAxes.l3, if_pos (by omega), if_pos (by omega)]
      split
      · rw [decide_eq_false (by omega)]
      · rfl
    refine EvP.step e (EvP.step (fun k => ?_) (hQ s hs))
    rw [spec_SomeAxes.j5, if_neg (by simp), if_pos (by omega), wsucc i (by omega)]
  | succ d ih =>
    intro j s hj hs hl
    by_cases hlt : (j : Int) < ((rd_L2 x1 (i : Int)).length : Int)
    · have e : ∀ k, spec_SomeAxes.l3 (k + 1) x1 x6 x7 x8 (i : Int) s (j : Int) x83 (i : Int) = spec_SomeAxes.j5 k x1 x6 x7 x8 (i : Int) s (j : Int) x83 (i : Int) true := fun k => by
        rw [spec_SomeAxes.l3, if_pos (by omega), if_pos (by omega), if_pos hlt, decide_eq_true (by omega)]
      refine EvP.step e ?_
      obtain ⟨A, hA⟩ : ∃ A, A = mx (-16384) (mn 16384 (wrap64 ((rd_T164 (rd_L2 x1 (i : Int)) (j : Int)).f0))) := ⟨_, rfl⟩
      obtain ⟨B, hB⟩ : ∃ B, B = mx (-16384) (mn 16384 (wrap64 ((rd_T164 (rd_L2 x1 (i : Int)) (j : Int)).f1))) := ⟨_, rfl⟩
      refine EvP.step (f := fun k => (spec_risingMap.f k s A B).bind fun t => spec_SomeAxes.l3 k x1 x6 x7 x8 (i : Int) t (((j + 1 : Nat)) : Int) x83 (i : Int)) (fun k => ?_) ?_
      · rw [spec_SomeAxes.j5, if_pos rfl, if_pos (by omega), if_pos (by omega), if_pos (by omega), if_pos hlt]
        unfold spec_Coord.f
        rw [Option.bind_some, Option.bind_some, ← hA, ← hB, wsucc j (by omega)]
      · exact EvP.bindP (rising_is hs (by omega) A B) fun t ht => ih (j + 1) t (by omega) ht.1 (by omega)
    · have e : ∀ k, spec_SomeAxes.l3 (k + 1) x1 x6 x7 x8 (i : Int) s (j : Int) x83 (i : Int) = spec_SomeAxes.j5 k x1 x6 x7 x8 (i : Int) s (j : Int) x83 (i : Int) false := fun k => by
        rw [spec_SomeAxes.l3, if_pos (by omega), if_pos (by omega), if_neg hlt]
      refine EvP.step e (EvP.step (fun k => ?_) (hQ s hs))
      rw [spec_SomeAxes.j5, if_neg (by simp), if_pos (by omega), wsucc i (by omega)]
theorem axes_l2 (x1 : List (List S164)) (x6 : List S92) (x7 : List (List S48)) (x8 : List Nat) (i : Nat) (Q : List S92 × List (List S48) × List Nat → Prop) (x83 : Int)
    (hQ : ∀ s, Seg s → EvP (fun k => spec_SomeAxes.l1 k x1 x6 (x7 ++ [s]) x8 x83 (((i + 1 : Nat)) : Int)) Q) (h7 : x7.length < 100) (hi2 : i < 1000) :
    EvP (fun k => spec_SomeAxes.l2 k x1 x6 x7 x8 (i : Int) [] x83 (i : Int) 0) Q := by
  refine EvP.step (f := fun k => spec_SomeAxes.l2 k x1 x6 x7 x8 (i : Int) [⟨-16384, -16384⟩] x83 (i : Int) 1) (fun k => ?_) ?_
  · rw [spec_SomeAxes.l2, if_pos (by decide), if_pos (by decide)]
    rw [show wrap64 (wrap64 (0 - 1) * 16384) = -16384 by decide +kernel, show wrap64 (0 + 1) = 1 by decide +kernel]
    rfl
  refine EvP.step (f := fun k => spec_SomeAxes.l2 k x1 x6 x7 x8 (i : Int) [⟨-16384, -16384⟩, ⟨0, 0⟩] x83 (i : Int) 2) (fun k => ?_) ?_
  · rw [spec_SomeAxes.l2, if_pos (by decide), if_pos (by decide)]
    rw [show wrap64 (wrap64 (1 - 1) * 16384) = 0 by decide +kernel, show wrap64 (1 + 1) = 2 by decide +kernel]
    rfl
  refine EvP.step (f := fun k => spec_SomeAxes.l2 k x1 x6 x7 x8 (i : Int) [⟨-16384, -16384⟩, ⟨0, 0⟩, ⟨16384, 16384⟩] x83 (i : Int) 3) (fun k => ?_) ?_
  · rw [spec_SomeAxes.l2, if_pos (by decide), if_pos (by decide)]
    rw [show wrap64 (wrap64 (2 - 1) * 16384) = 16384 by decide +kernel, show wrap64 (2 + 1) = 3 by decide +kernel]
    rfl
  by_cases hi : i < x1.length
  · refine EvP.step (fun k => ?_) (axes_l3 x1 x6 x7 x8 i hi Q x83 hQ h7 hi2 5 0 _ rfl seg0 (by decide))
    rw [spec_SomeAxes.l2, if_neg (by decide), if_pos (by omega)]
    rfl
  · refine EvP.step (fun k => ?_) (hQ _ seg0)
    rw [spec_SomeAxes.l2, if_neg (by decide), if_neg (by omega), if_pos (by omega), wsucc i (by omega)]
theorem axes_l1 (x1 : List (List S164)) (x6 : List S92) (x8 : List Nat) (h6 : x6.length ≤ 4) (Q : List S92 × List (List S48) × List Nat → Prop)
    (hQ : ∀ S : List (List S48), S.length = x6.length → (∀ s ∈ S, Seg s) → Q (x6, S, x8)) :
    ∀ (d i : Nat) (S : List (List S48)), i + d = x6.length → S.length = i → (∀ s ∈ S, Seg s) → EvP (fun k => spec_SomeAxes.l1 k x1 x6 S x8 (x6.length : Int) (i : Int)) Q := by
  intro d
  induction d with
  | zero =>
    intro i S hi hS hs
    refine EvP.step (f := fun _ => some (x6, S, x8)) (fun k => ?_) (EvP.now _ (hQ S (by omega) hs))
    rw [spec_SomeAxes.l1, if_neg (by omega)]
  | succ d ih =>
    intro i S hi hS hs
    refine EvP.step (fun k => ?_) (axes_l2 x1 x6 S x8 i Q (x6.length : Int) (fun s hseg => ih (i + 1) (S ++ [s]) (by omega) (by rw [List.length_append, List.length_singleton, hS]) (fun t ht => ?_)) (by omega) (by omega))
    · rw [spec_SomeAxes.l1, if_pos (by omega)]
    · rcases List.mem_append.1 ht with ht | ht
      · exact hs t ht
      · rw [List.mem_singleton.1 ht]; exact hseg
theorem axes_l0 (x0 : List S161) (x1 : List (List S164)) (x2 : List Int) (h0 : ∀ y ∈ x0, good161 y) (h2 : ∀ x ∈ x2, (Lit.int .i16 x).wf = true) :
    ∀ (d i : Nat) (A : List S92) (C : List Nat), i + d = 4 → A.length = i → C.length = i → (∀ s ∈ A, AxOk s) → (∀ c ∈ C, CoOk c) → EvP (fun k => spec_SomeAxes.l0 k x0 x1 x2 A C (i : Int)) (Some3 x1) := by
  intro d
  have fin : ∀ (A : List S92) (C : List Nat) (i : Nat), A.length = i → C.length = i → i ≤ 4 → (∀ s ∈ A, AxOk s) → (∀ c ∈ C, CoOk c) → EvP (fun k => spec_SomeAxes.j1 k x0 x1 x2 A [] C (i : Int) false) (Some3 x1) := by
    intro A C i hA hC hi hax hco
    by_cases h1 : (x1.length : Int) = 0
    · refine EvP.step (f := fun _ => some (A, [], C)) (fun k => ?_) (EvP.now _ ⟨⟨hC.trans hA.symm, show A.length ≤ 4 by omega⟩, hax, hco, fun _ => rfl, fun h => absurd h1 h⟩)
      rw [spec_SomeAxes.j1, if_neg (by simp), if_pos h1]
    · refine EvP.step (fun k => ?_) (axes_l1 x1 A C (by omega) (Some3 x1) (fun S hS hs => ⟨⟨hC.trans hA.symm, show A.length ≤ 4 by omega⟩, hax, hco, fun h => absurd h h1, fun _ => ⟨hS, hs⟩⟩) A.length 0 [] (by omega) rfl (fun s hs => by cases hs))
      rw [spec_SomeAxes.j1, if_neg (by simp), if_neg h1]
      rfl
  induction d with
  | zero =>
    intro i A C hi hA hC hax hco
    refine EvP.step (fun k => ?_) (fin A C i hA hC (by omega) hax hco)
    rw [spec_SomeAxes.l0]
    split
    · rw [decide_eq_false (by omega)]
    · rfl
  | succ d ih =>
    intro i A C hi hA hC hax hco
    by_cases hlt : (i : Int) < (x0.length : Int)
    · refine EvP.step (f := fun k => spec_SomeAxes.j1 k x0 x1 x2 A [] C (i : Int) true) (fun k => ?_) ?_
      · rw [spec_SomeAxes.l0, if_pos hlt, decide_eq_true (by omega)]
      obtain ⟨s0, hs0⟩ : ∃ s0, s0 = rd_T161 x0 (i : Int) := ⟨_, rfl⟩
      have hm : s0 ∈ x0 := by
        rw [hs0]
        show x0.getD i z161 ∈ x0
        rw [List.getD_eq_getElem?_getD, List.getElem?_eq_getElem (by omega)]
        exact List.getElem_mem (by omega)
      obtain ⟨g0, g1, g2⟩ := h0 s0 hm
      have q0 := tdiv4 (wf16 g0)
      have q1 := tdiv4 (wf16 g1)
      have q2 := tdiv4 (wf16 g2)
      obtain ⟨a, ha⟩ : ∃ a, a = IntKind.i16.wrap (Int.tdiv s0.f0 4) := ⟨_, rfl⟩
      obtain ⟨b, hb⟩ : ∃ b, b = IntKind.i16.wrap (Int.tdiv s0.f1 4) := ⟨_, rfl⟩
      obtain ⟨c, hc⟩ : ∃ c, c = IntKind.i16.wrap (Int.tdiv s0.f2 4) := ⟨_, rfl⟩
      rw [← ha] at q0
      rw [← hb] at q1
      rw [← hc] at q2
      obtain ⟨cn, hcn, hcn2⟩ : ∃ cn : Nat, CoOk cn ∧ (if (i : Int) < (x2.length : Int) then floatOfInt .f32 (IntKind.i16.wrap (Int.tdiv (rd x2 (i : Int)) 2)) else 0) = cn := by
        by_cases hx : (i : Int) < (x2.length : Int)
        · rw [if_pos hx]
          refine ⟨_, ⟨_, rfl, ?_⟩, rfl⟩
          have hm2 : rd x2 (i : Int) ∈ x2 := by
            have : rd x2 (i : Int) = x2.getD i 0 := by unfold rd; rw [Int.toNat_natCast]
            rw [this, List.getD_eq_getElem?_getD, List.getElem?_eq_getElem (by omega)]
            exact List.getElem_mem (by omega)
          exact tdiv2 (wf16 (h2 _ hm2))
        · rw [if_neg hx]
          exact ⟨0, ⟨0, foi0.symm, by decide⟩, rfl⟩
      refine EvP.step (f := fun k => (slices_Sort_int16_int16.f k [a, b, c]).bind fun t => spec_SomeAxes.l0 k x0 x1 x2 (A ++ [⟨floatOfInt .f32 (rd t 0), floatOfInt .f32 (rd t 1), floatOfInt .f32 (rd t 2)⟩]) (C ++ [cn]) (((i + 1 : Nat)) : Int)) (fun k => ?_) ?_
      · rw [spec_SomeAxes.j1, if_pos rfl, if_pos (by omega), if_pos hlt, Option.bind_some, ← hs0, ← ha, ← hb, ← hc]
        congr 1
        funext t
        rw [if_pos (by simp), if_pos (by simp), if_pos (by simp), if_pos (by omega), Option.bind_some, wsucc i (by omega)]
        by_cases hx : (i : Int) < (x2.length : Int)
        · rw [if_pos hx] at hcn2
          rw [if_pos hx, if_pos (by omega), hcn2]
        · rw [if_neg hx] at hcn2
          rw [if_neg hx, if_pos (by omega), hcn2]
      · refine EvP.bindP (sort3 a b c) fun t ht => ?_
        obtain ⟨x, y, z, rfl, h1, h3, h4⟩ := ht
        obtain ⟨p1, p2, p3⟩ := h4 (fun v => -8192 ≤ v ∧ v ≤ 8191) q0 q1 q2
        refine ih (i + 1) _ _ (by omega) (by rw [List.length_append, List.length_singleton, hA]) (by rw [List.length_append, List.length_singleton, hC]) (fun s hs => ?_) (fun s hs => ?_)
        · rcases List.mem_append.1 hs with hs | hs
          · exact hax s hs
          · rw [List.mem_singleton.1 hs]
            exact ⟨x, y, z, rfl, p1.1, h1, h3, p3.2⟩
        · rcases List.mem_append.1 hs with hs | hs
          · exact hco s hs
          · rw [List.mem_singleton.1 hs]; exact hcn
    · refine EvP.step (fun k => ?_) (fin A C i hA hC (by omega) hax hco)
      rw [spec_SomeAxes.l0, if_neg hlt]
theorem axes_is (x0 : List S161) (x1 : List (List S164)) (x2 : List Int) (h0 : ∀ y ∈ x0, good161 y) (h2 : ∀ x ∈ x2, (Lit.int .i16 x).wf = true) : EvP (fun k => spec_SomeAxes.f k x0 x1 x2) (Some3 x1) :=
  axes_l0 x0 x1 x2 h0 h2 4 0 [] [] rfl rfl rfl (fun s hs => by cases hs) (fun s hs => by cases hs)

/-! ### one coordinate: what the package makes of it, and the reference -/
theorem icast {a b : Int} (h : a ≤ b) : (a : Rat) ≤ (b : Rat) := Rat.intCast_le_intCast.2 h
theorem icast_lt {a b : Int} (h : a < b) : (a : Rat) < (b : Rat) := Rat.intCast_lt_intCast.2 h
/-- A quotient of whole numbers from 0 to 1. -/
theorem quo01 {p q : Int} (h0 : 0 ≤ p) (h1 : p ≤ q) (hq : 0 < q) : 0 ≤ (p : Rat) / (q : Rat) ∧ (p : Rat) / (q : Rat) ≤ 1 := by
  have hq' : (0 : Rat) < (q : Rat) := icast_lt hq
  exact ⟨le_div_of hq' (by have := icast h0; rw [Rat.zero_mul]; exact this), div_le_of hq' (by have := icast h1; rw [Rat.one_mul]; exact this)⟩
structure Axis (s : S92) (c : Nat) where
  a : Int
  u : Int
  m : Int
  n : Int
  hs : s = ⟨floatOfInt .f32 a, floatOfInt .f32 u, floatOfInt .f32 m⟩
  hc : c = floatOfInt .f32 n
  b : -8192 ≤ a ∧ a ≤ u ∧ u ≤ m ∧ m ≤ 8191 ∧ -16384 ≤ n ∧ n ≤ 16383
/-- The coordinate, not beyond the axis. -/
def Axis.t {s c} (x : Axis s c) : Int := if x.m < x.n then x.m else if x.n < x.a then x.a else x.n
theorem Axis.tb {s c} (x : Axis s c) : x.a ≤ x.t ∧ x.t ≤ x.m := by
  unfold Axis.t
  have := x.b
  split
  · omega
  · split <;> omega
def Axis.W {s c} (x : Axis s c) : Rat := if x.t < x.u then -(16384 * (((x.u - x.t : Int) : Rat) / ((x.u - x.a : Int) : Rat))) else if x.u < x.t then 16384 * (((x.t - x.u : Int) : Rat) / ((x.m - x.u : Int) : Rat)) else 0
theorem fin32 (n : Int) (h : -20000 ≤ n ∧ n ≤ 20000) : Fin .f32 (floatOfInt .f32 n) (n : Rat) := ofInt_fin .f32 n (by omega)
theorem Axis.fc {s c} (x : Axis s c) : Fin .f32 c (x.n : Rat) := by
  have h := fin32 x.n (by have := x.b; omega)
  rw [← x.hc] at h
  exact h
theorem Axis.fa {s c} (x : Axis s c) : Fin .f32 s.f0 (x.a : Rat) := by
  have h := fin32 x.a (by have := x.b; omega)
  rw [← show s.f0 = floatOfInt .f32 x.a from congrArg S92.f0 x.hs] at h
  exact h
theorem Axis.fu {s c} (x : Axis s c) : Fin .f32 s.f1 (x.u : Rat) := by
  have h := fin32 x.u (by have := x.b; omega)
  rw [← show s.f1 = floatOfInt .f32 x.u from congrArg S92.f1 x.hs] at h
  exact h
theorem Axis.fm {s c} (x : Axis s c) : Fin .f32 s.f2 (x.m : Rat) := by
  have h := fin32 x.m (by have := x.b; omega)
  rw [← show s.f2 = floatOfInt .f32 x.m from congrArg S92.f2 x.hs] at h
  exact h
theorem ord_gt {k : FloatKind} {a b : Nat} {m n : Int} (ha : Fin k a (m : Rat)) (hb : Fin k b (n : Rat)) : (k.format.order a b == some .gt) = decide (n < m) := by
  rw [(order_fin ha hb).2.2.1]
  exact decide_eq_decide.2 Rat.intCast_lt_intCast
theorem ord_lt {k : FloatKind} {a b : Nat} {m n : Int} (ha : Fin k a (m : Rat)) (hb : Fin k b (n : Rat)) : (k.format.order a b == some .lt) = decide (m < n) := by
  rw [(order_fin ha hb).1]
  exact decide_eq_decide.2 Rat.intCast_lt_intCast
theorem ord_eq {k : FloatKind} {a b : Nat} {m n : Int} (ha : Fin k a (m : Rat)) (hb : Fin k b (n : Rat)) : (k.format.order a b == some .eq) = decide (m = n) := by
  rw [(order_fin ha hb).2.1]
  exact decide_eq_decide.2 Rat.intCast_inj
/-- From a quotient's float to the whole number. -/
theorem scale {b : Nat} {q : Rat} {Q : Rat} (hb : Fin .f32 b q) (hq : Cl q Q (1 / 7000000)) (h1 : Q ≤ 1) (h2 : -Q ≤ 1) : fok .mul .f32 b 1182793728 = true ∧ fcok .f32 (fv .mul .f32 b 1182793728) .f64 = true ∧
    ∃ (t : Nat) (n : Int), math_Round.f (fc .f32 (fv .mul .f32 b 1182793728) .f64) = some t ∧ fiok .f64 t .i16 = true ∧ fi .f64 t .i16 = n ∧ -16384 ≤ n ∧ n ≤ 16384 ∧ Cl (n : Rat) (16384 * Q) (51 / 100) := by
  unfold Cl at hq
  obtain ⟨f1, z, hz, hn⟩ := mul32 hb w16384_32 (by grind) (by grind)
  unfold Cl at hn
  obtain ⟨f2, hw⟩ := wide hz (by grind) (by grind)
  have p40 : (1000000 : Rat) ≤ P2 40 := by decide +kernel
  obtain ⟨t, n, hr, hf, n1, n2⟩ := round_fin hw (by grind) (by grind)
  have b1 : (n : Rat) < ((16385 : Int) : Rat) := by
    have : ((16385 : Int) : Rat) = 16385 := rfl
    rw [this]; grind
  have b2 : ((-16385 : Int) : Rat) < (n : Rat) := by
    have : ((-16385 : Int) : Rat) = -16385 := rfl
    rw [this]; grind
  have b3 := Rat.intCast_lt_intCast.1 b1
  have b4 := Rat.intCast_lt_intCast.1 b2
  obtain ⟨g1, g2⟩ := fi_int hf (by omega) (by omega)
  refine ⟨f1, f2, t, n, hr, g1, g2, by omega, by omega, ?_⟩
  unfold Cl
  constructor <;> grind
/-- What the package makes of a coordinate. -/
theorem code_one {s : S92} {c : Nat} (x : Axis s c) : ∃ n : Int, -16384 ≤ n ∧ n ≤ 16384 ∧ Cl (n : Rat) x.W (51 / 100) ∧
    ∀ (k : Nat) (C : List Nat) (N : List Int) (i : Int) (R : List S170) (l : Int), font_fvar_normalizeCoordinates.j1 (k + 1) C N i (if (FloatKind.f32.format.order c s.f2 == some .gt) = true then s.f2 else if (FloatKind.f32.format.order c s.f0 == some .lt) = true then s.f0 else c) R l i 0 s.f0 s.f1 s.f2 0 0 =
      (if 0 ≤ i then if i < (N.length : Int) then font_fvar_normalizeCoordinates.l0 k C (N.set i.toNat n) R l (wrap64 (i + 1)) else none else none) := by
  have hb := x.b
  have ht := x.tb
  have fc_ := x.fc
  have fa := x.fa
  have fu := x.fu
  have fm := x.fm
  rw [ord_gt fc_ fm, ord_lt fc_ fa]
  obtain ⟨v, hv⟩ : ∃ v, v = (if decide (x.m < x.n) = true then s.f2 else if decide (x.n < x.a) = true then s.f0 else c) := ⟨_, rfl⟩
  rw [← hv]
  have fv_ : Fin .f32 v (x.t : Rat) := by
    rw [hv]
    unfold Axis.t
    by_cases c1 : x.m < x.n
    · rw [if_pos (decide_eq_true c1), if_pos c1]; exact fm
    · rw [if_neg (by simpa using c1), if_neg c1]
      by_cases c2 : x.n < x.a
      · rw [if_pos (decide_eq_true c2), if_pos c2]; exact fa
      · rw [if_neg (by simpa using c2), if_neg c2]; exact fc_
  unfold Axis.W
  by_cases h1 : x.t < x.u
  · rw [if_pos h1]
    obtain ⟨o1, s1⟩ := sub_int fv_ fu (by omega)
    obtain ⟨o2, s2⟩ := sub_int fa fu (by omega)
    have s1' := neg_fin s1
    have hQ := quo01 (p := x.u - x.t) (q := x.u - x.a) (by omega) (by omega) (by omega)
    have hne : ((x.a - x.u : Int) : Rat) ≠ 0 := by
      intro h0
      have : ((x.a - x.u : Int) : Rat) = ((0 : Int) : Rat) := h0
      have := Rat.intCast_inj.1 this
      omega
    have e0 : -((x.t - x.u : Int) : Rat) / ((x.a - x.u : Int) : Rat) = -(((x.u - x.t : Int) : Rat) / ((x.u - x.a : Int) : Rat)) := by
      rw [show ((x.a - x.u : Int) : Rat) = -((x.u - x.a : Int) : Rat) by rw [← Rat.intCast_neg]; congr 1; omega, show ((x.u - x.t : Int) : Rat) = -((x.t - x.u : Int) : Rat) by rw [← Rat.intCast_neg]; congr 1; omega]
      grind
    obtain ⟨o3, q, hq, hc⟩ := div32 s1' s2 hne (by rw [e0]; grind) (by rw [e0]; grind)
    rw [e0] at hc
    obtain ⟨o4, o5, t, n, hr, o6, hn, b1, b2, hcl⟩ := scale hq hc (by grind) (by grind)
    refine ⟨n, b1, b2, by rw [← Rat.mul_neg]; exact hcl, fun k C N i R l => ?_⟩
    rw [font_fvar_normalizeCoordinates.j1, ord_lt fv_ fu, if_pos (decide_eq_true h1), if_pos o1, if_pos o2, if_pos o3, if_pos o4, if_pos o5, hr, Option.bind_some, if_pos o6, hn]
  · rw [if_neg h1]
    by_cases h2 : x.u < x.t
    · rw [if_pos h2]
      obtain ⟨o1, s1⟩ := sub_int fv_ fu (by omega)
      obtain ⟨o2, s2⟩ := sub_int fm fu (by omega)
      have hQ := quo01 (p := x.t - x.u) (q := x.m - x.u) (by omega) (by omega) (by omega)
      have hne : ((x.m - x.u : Int) : Rat) ≠ 0 := by
        intro h0
        have : ((x.m - x.u : Int) : Rat) = ((0 : Int) : Rat) := h0
        have := Rat.intCast_inj.1 this
        omega
      obtain ⟨o3, q, hq, hc⟩ := div32 s1 s2 hne (by grind) (by grind)
      obtain ⟨o4, o5, t, n, hr, o6, hn, b1, b2, hcl⟩ := scale hq hc (by grind) (by grind)
      refine ⟨n, b1, b2, hcl, fun k C N i R l => ?_⟩
      rw [font_fvar_normalizeCoordinates.j1, ord_lt fv_ fu, if_neg (by simpa using h1), ord_gt fv_ fu, if_pos (decide_eq_true h2), if_pos o1, if_pos o2, if_pos o3, if_pos o4, if_pos o5, hr, Option.bind_some, if_pos o6, hn]
    · rw [if_neg h2]
      obtain ⟨o4, o5, t, n, hr, o6, hn, b1, b2, hcl⟩ := scale (Q := 0) w0_32 (by unfold Cl; constructor <;> decide +kernel) (by decide +kernel) (by decide +kernel)
      refine ⟨n, b1, b2, by rw [Rat.mul_zero] at hcl; exact hcl, fun k C N i R l => ?_⟩
      rw [font_fvar_normalizeCoordinates.j1, ord_lt fv_ fu, if_neg (by simpa using h1), ord_gt fv_ fu, if_neg (by simpa using h2), if_pos o4, if_pos o5, hr, Option.bind_some, if_pos o6, hn]
/-- What the reference makes of it. -/
theorem ref_one {s : S92} {c : Nat} (x : Axis s c) : ∃ (b : Nat) (R : Rat), spec_NormalRef.f s.f0 s.f1 s.f2 c = some b ∧ Fin .f64 b R ∧ Cl R x.W (1 / 100000) := by
  have hb := x.b
  have ht := x.tb
  have bd : ∀ n : Int, -20000 ≤ n ∧ n ≤ 20000 → (n : Rat) ≤ 1000000000 ∧ -(n : Rat) ≤ 1000000000 := fun n hn => by
    have h1 := icast hn.1
    have h2 := icast hn.2
    have e1 : ((20000 : Int) : Rat) = 20000 := rfl
    have e2 : ((-20000 : Int) : Rat) = -20000 := rfl
    rw [e1] at h2
    rw [e2] at h1
    constructor <;> grind
  obtain ⟨k1, gc⟩ := wide x.fc (bd _ (by omega)).1 (bd _ (by omega)).2
  obtain ⟨k2, ga⟩ := wide x.fa (bd _ (by omega)).1 (bd _ (by omega)).2
  obtain ⟨k3, gu⟩ := wide x.fu (bd _ (by omega)).1 (bd _ (by omega)).2
  obtain ⟨k4, gm⟩ := wide x.fm (bd _ (by omega)).1 (bd _ (by omega)).2
  obtain ⟨m1, z1, hz1, w1, w2, w3⟩ := min_fin gm gc
  obtain ⟨m2, z2, hz2, w4, w5, w6⟩ := max_fin ga hz1
  have hz : z2 = (x.t : Rat) := by
    unfold Axis.t
    by_cases c1 : x.m < x.n
    · rw [if_pos c1]
      have e1 := icast_lt c1
      have e2 := icast (show x.a ≤ x.m by omega)
      grind
    · rw [if_neg c1]
      have e1 := icast (show x.n ≤ x.m by omega)
      by_cases c2 : x.n < x.a
      · rw [if_pos c2]
        have e2 := icast_lt c2
        grind
      · rw [if_neg c2]
        have e2 := icast (show x.a ≤ x.n by omega)
        grind
  rw [hz] at hz2
  unfold spec_NormalRef.f
  rw [if_pos k1, if_pos k2, if_pos k3, if_pos k4, if_pos m1, if_pos m2, ord_lt hz2 gu, ord_gt hz2 gu]
  unfold Axis.W
  by_cases h1 : x.t < x.u
  · rw [if_pos (decide_eq_true h1), if_pos h1]
    obtain ⟨o1, s1⟩ := sub_int gu hz2 (by omega)
    obtain ⟨o2, s2⟩ := mul_int (m := -16384) wm16384 s1 (by omega)
    obtain ⟨o3, s3⟩ := sub_int gu ga (by omega)
    have hQ := quo01 (p := x.u - x.t) (q := x.u - x.a) (by omega) (by omega) (by omega)
    have hne : ((x.u - x.a : Int) : Rat) ≠ 0 := by
      intro h0
      have : ((x.u - x.a : Int) : Rat) = ((0 : Int) : Rat) := h0
      have := Rat.intCast_inj.1 this
      omega
    have e0 : ((-16384 * (x.u - x.t) : Int) : Rat) / ((x.u - x.a : Int) : Rat) = -(16384 * (((x.u - x.t : Int) : Rat) / ((x.u - x.a : Int) : Rat))) := by
      rw [Rat.intCast_mul, show ((-16384 : Int) : Rat) = -16384 from rfl]
      grind
    obtain ⟨o4, z, hz, hc, _⟩ := div64 s2 s3 hne (by rw [e0]; grind) (by rw [e0]; grind)
    rw [e0] at hc
    rw [if_pos o1, if_pos o2, if_pos o3, if_pos o4]
    exact ⟨_, z, rfl, hz, hc.mono (by decide +kernel)⟩
  · rw [if_neg (by simpa using h1), if_neg h1]
    by_cases h2 : x.u < x.t
    · rw [if_pos (decide_eq_true h2), if_pos h2]
      obtain ⟨o1, s1⟩ := sub_int hz2 gu (by omega)
      obtain ⟨o2, s2⟩ := mul_int (m := 16384) w16384 s1 (by omega)
      obtain ⟨o3, s3⟩ := sub_int gm gu (by omega)
      have hQ := quo01 (p := x.t - x.u) (q := x.m - x.u) (by omega) (by omega) (by omega)
      have hne : ((x.m - x.u : Int) : Rat) ≠ 0 := by
        intro h0
        have : ((x.m - x.u : Int) : Rat) = ((0 : Int) : Rat) := h0
        have := Rat.intCast_inj.1 this
        omega
      have e0 : ((16384 * (x.t - x.u) : Int) : Rat) / ((x.m - x.u : Int) : Rat) = 16384 * (((x.t - x.u : Int) : Rat) / ((x.m - x.u : Int) : Rat)) := by
        rw [Rat.intCast_mul, show ((16384 : Int) : Rat) = 16384 from rfl]
        grind
      obtain ⟨o4, z, hz, hc, _⟩ := div64 s2 s3 hne (by rw [e0]; grind) (by rw [e0]; grind)
      rw [e0] at hc
      rw [if_pos o1, if_pos o2, if_pos o3, if_pos o4]
      exact ⟨_, z, rfl, hz, hc.mono (by decide +kernel)⟩
    · rw [if_neg (by simpa using h2), if_neg h2]
      exact ⟨0, 0, rfl, w0_64, by unfold Cl; constructor <;> decide +kernel⟩

/-! ### segments: what the package makes of a value, and the reference -/
def gab (p q : S48) (x : Rat) : Rat := (p.f1 : Rat) + (x - (p.f0 : Rat)) * ((q.f1 - p.f1 : Int) : Rat) / ((q.f0 - p.f0 : Int) : Rat)
/-- z is what the segments make of x. -/
def PM (l : List S48) (x z : Rat) : Prop := ∃ i, i + 1 < l.length ∧ ((at48 l i).f0 : Rat) ≤ x ∧ x ≤ ((at48 l (i + 1)).f0 : Rat) ∧ z = gab (at48 l i) (at48 l (i + 1)) x
theorem gab_mono {p q : S48} (h0 : p.f0 < q.f0) (h1 : p.f1 ≤ q.f1) {x y : Rat} (hxy : x ≤ y) : gab p q x ≤ gab p q y := by
  unfold gab
  have hE : (0 : Rat) < ((q.f0 - p.f0 : Int) : Rat) := icast_lt (by omega : (0 : Int) < q.f0 - p.f0)
  have hD : (0 : Rat) ≤ ((q.f1 - p.f1 : Int) : Rat) := icast (by omega : (0 : Int) ≤ q.f1 - p.f1)
  have h2 := mul_mono (show x - (p.f0 : Rat) ≤ y - (p.f0 : Rat) by grind) hD
  have h3 : (x - (p.f0 : Rat)) * ((q.f1 - p.f1 : Int) : Rat) / ((q.f0 - p.f0 : Int) : Rat) ≤ (y - (p.f0 : Rat)) * ((q.f1 - p.f1 : Int) : Rat) / ((q.f0 - p.f0 : Int) : Rat) := by
    refine div_le_of hE ?_
    rw [Rat.div_mul_cancel (by grind)]
    exact h2
  grind
theorem gab_lo (p q : S48) (_ : p.f0 < q.f0) : gab p q (p.f0 : Rat) = (p.f1 : Rat) := by
  unfold gab
  rw [Rat.sub_self, Rat.zero_mul]
  grind
theorem gab_hi (p q : S48) (h0 : p.f0 < q.f0) : gab p q (q.f0 : Rat) = (q.f1 : Rat) := by
  have hE : (0 : Rat) < ((q.f0 - p.f0 : Int) : Rat) := icast_lt (by omega : (0 : Int) < q.f0 - p.f0)
  unfold gab
  rw [show (q.f0 : Rat) - (p.f0 : Rat) = ((q.f0 - p.f0 : Int) : Rat) from (Rat.intCast_sub _ _).symm, Rat.mul_comm, Rat.mul_div_cancel (by grind), ← Rat.intCast_add]
  congr 1
  omega
theorem up_le {l : List S48} (h : Seg l) : ∀ (d i : Nat), i + d < l.length → (at48 l i).f0 ≤ (at48 l (i + d)).f0 ∧ (at48 l i).f1 ≤ (at48 l (i + d)).f1
  | 0, i, _ => ⟨Int.le_refl _, Int.le_refl _⟩
  | d + 1, i, hd => by
    have h1 := up_le h d i (by omega)
    have h2 := h.up (i + d) (by omega)
    rw [show i + (d + 1) = i + d + 1 by omega]
    omega
theorem PM_mono {l : List S48} (h : Seg l) {x y z w : Rat} (hx : PM l x z) (hy : PM l y w) (hxy : x ≤ y) : z ≤ w := by
  obtain ⟨i, i1, i2, i3, rfl⟩ := hx
  obtain ⟨j, j1, j2, j3, rfl⟩ := hy
  have ui := h.up i i1
  have uj := h.up j j1
  rcases Nat.lt_trichotomy i j with hij | rfl | hij
  · have a1 := gab_mono ui.1 ui.2 i3
    rw [gab_hi _ _ ui.1] at a1
    have a2 := gab_mono uj.1 uj.2 j2
    rw [gab_lo _ _ uj.1] at a2
    have a3 := (up_le h (j - (i + 1)) (i + 1) (by omega)).2
    rw [show i + 1 + (j - (i + 1)) = j by omega] at a3
    have a4 := icast a3
    grind
  · exact gab_mono ui.1 ui.2 hxy
  · have a3 := (up_le h (i - (j + 1)) (j + 1) (by omega)).1
    rw [show j + 1 + (i - (j + 1)) = i by omega] at a3
    have a4 := icast a3
    have e1 : x = ((at48 l i).f0 : Rat) := by grind
    have e2 : y = ((at48 l (j + 1)).f0 : Rat) := by grind
    have e3 : ((at48 l i).f0 : Rat) = ((at48 l (j + 1)).f0 : Rat) := by grind
    have e4 := Rat.intCast_inj.1 e3
    rcases Nat.lt_or_ge (j + 1) i with k | k
    · have b1 := h.up (j + 1) (by omega)
      have b2 := (up_le h (i - (j + 2)) (j + 2) (by omega)).1
      rw [show j + 2 + (i - (j + 2)) = i by omega] at b2
      rw [show j + 1 + 1 = j + 2 by omega] at b1
      omega
    · have : i = j + 1 := by omega
      subst this
      rw [e1, gab_lo _ _ ui.1, e2, gab_hi _ _ uj.1]
      exact Rat.le_refl
/-! the package's -/
def conv (l : List S48) : List S177 := l.map fun s => ⟨s.f0, s.f1⟩
theorem rd177 (l : List S48) (i : Nat) : (rd_T177 (conv l) (i : Int)).f0 = (at48 l i).f0 ∧ (rd_T177 (conv l) (i : Int)).f1 = (at48 l i).f1 := by
  have e : rd_T177 (conv l) (i : Int) = (conv l).getD i z177 := rfl
  rw [e]
  unfold conv at48
  rw [List.getD_eq_getElem?_getD, List.getD_eq_getElem?_getD, List.getElem?_map]
  cases l[i]? <;> exact ⟨rfl, rfl⟩
theorem conv_len (l : List S48) : (conv l).length = l.length := by simp [conv]
def MapOk (l : List S48) (v y : Int) : Prop := ∃ z : Rat, PM l (v : Rat) z ∧ (y : Rat) ≤ z ∧ z < (y : Rat) + 1
theorem map_at {l : List S48} (h : Seg l) (i : Nat) (hi : i < l.length) : MapOk l (at48 l i).f0 (at48 l i).f1 := by
  have hl := h.len
  refine ⟨((at48 l i).f1 : Rat), ?_, Rat.le_refl, by grind⟩
  rcases Nat.lt_or_ge (i + 1) l.length with k | k
  · have u := h.up i k
    exact ⟨i, k, Rat.le_refl, icast (Int.le_of_lt u.1), (gab_lo _ _ u.1).symm⟩
  · obtain ⟨j, rfl⟩ : ∃ j, i = j + 1 := ⟨i - 1, by omega⟩
    have u := h.up j (by omega)
    exact ⟨j, by omega, icast (Int.le_of_lt u.1), Rat.le_refl, (gab_hi _ _ u.1).symm⟩
theorem fin64 (n : Int) (h : -40000 ≤ n ∧ n ≤ 40000) : Fin .f64 (floatOfInt .f64 n) (n : Rat) := ofInt_fin .f64 n (by omega)
/-- The quotient of two whole numbers, made whole. -/
theorem floor_quo {a b : Nat} {p q : Int} (ha : Fin .f64 a (p : Rat)) (hb : Fin .f64 b (q : Rat)) (h0 : 0 ≤ p) (hq : 0 < q) (hq2 : q ≤ 16384) (h1 : p ≤ 16384 * q) : fok .quo .f64 a b = true ∧ fiok .f64 (fv .quo .f64 a b) .i16 = true ∧ fi .f64 (fv .quo .f64 a b) .i16 = p / q := by
  have hq' : (0 : Rat) < (q : Rat) := icast_lt hq
  have hne : (q : Rat) ≠ 0 := by grind
  have hF := Int.mul_ediv_add_emod p q
  have hR0 := Int.emod_nonneg p (show q ≠ 0 by omega)
  have hR1 := Int.emod_lt_of_pos p hq
  obtain ⟨F, hFd⟩ : ∃ F, F = p / q := ⟨_, rfl⟩
  obtain ⟨R, hRd⟩ : ∃ R, R = p % q := ⟨_, rfl⟩
  rw [← hFd, ← hRd] at hF
  rw [← hRd] at hR0 hR1
  rw [← hFd]
  have F0 : 0 ≤ F := by rw [hFd]; exact Int.ediv_nonneg h0 (by omega)
  have F1 : F ≤ 16384 := by rw [hFd]; exact Int.ediv_le_of_le_mul hq (by rw [Int.mul_comm] at h1; rw [Int.mul_comm]; exact h1)
  have hp : (p : Rat) = (q : Rat) * (F : Rat) + (R : Rat) := by rw [← Rat.intCast_mul, ← Rat.intCast_add, hF]
  have hF0 := icast F0
  have hF1 := icast F1
  have hR0' := icast hR0
  have e1 : ((16384 : Int) : Rat) = 16384 := rfl
  have e0 : ((0 : Int) : Rat) = 0 := rfl
  rw [e1] at hF1
  rw [e0] at hF0 hR0'
  have hdiv : (p : Rat) / (q : Rat) = (F : Rat) + (R : Rat) / (q : Rat) := by rw [hp]; grind
  have hr := quo01 hR0 (by omega : R ≤ q) hq
  obtain ⟨o1, z, hz, hc, he⟩ := div64 ha hb hne (by rw [hdiv]; grind) (by rw [hdiv]; grind)
  rw [hdiv] at hc he
  refine ⟨o1, ?_⟩
  by_cases hR : R = 0
  · have e2 : (F : Rat) + (R : Rat) / (q : Rat) = (F : Rat) := by rw [hR]; show (F : Rat) + 0 / (q : Rat) = _; grind
    rw [e2] at he
    have := he (rep_int .f64 F (by show _ < 2 ^ 53; omega))
    rw [this] at hz
    exact fi_int hz (by omega) (by omega)
  · have r1 : (1 : Rat) / 16384 ≤ (R : Rat) / (q : Rat) := by
      refine le_div_of hq' ?_
      have a1 := icast hq2
      have a2 := icast (show (1 : Int) ≤ R by omega)
      have e3 : ((1 : Int) : Rat) = 1 := rfl
      rw [e1] at a1
      rw [e3] at a2
      grind
    have r2 : (R : Rat) / (q : Rat) ≤ 1 - 1 / 16384 := by
      refine div_le_of hq' ?_
      have a1 := icast hq2
      have a2 := icast (show R + 1 ≤ q by omega)
      have e3 : ((1 : Int) : Rat) = 1 := rfl
      rw [e1] at a1
      rw [Rat.intCast_add, e3] at a2
      grind
    unfold Cl at hc
    obtain ⟨g1, g2, _⟩ := fi_fin hz (by grind) (by grind)
    obtain ⟨g3, g4⟩ := g2 (by grind)
    refine ⟨g1, ?_⟩
    have b1 : ((fi .f64 (fv .quo .f64 a b) .i16 : Int) : Rat) < ((F + 1 : Int) : Rat) := by
      rw [Rat.intCast_add]; show _ < (F : Rat) + 1; grind
    have b2 : (F : Rat) < ((fi .f64 (fv .quo .f64 a b) .i16 + 1 : Int) : Rat) := by
      rw [Rat.intCast_add]; show _ < _ + (1 : Rat); grind
    have b3 := Rat.intCast_lt_intCast.1 b1
    have b4 := Rat.intCast_lt_intCast.1 b2
    omega
theorem map_lerp {l : List S48} (h : Seg l) (i : Nat) (hi : i + 1 < l.length) (v : Int) (h1 : (at48 l i).f0 < v) (h2 : v < (at48 l (i + 1)).f0) : ∃ y, (∀ k, tables_SegmentMaps_Map.j9 (k + 1) v (conv l) (l.length : Int) ((i + 1 : Nat) : Int) = some y) ∧ MapOk l v y := by
  have hl := h.len
  have u := h.up i hi
  have s := h.sp i hi
  have b1 := h.bd i (by omega)
  have b2 := h.bd (i + 1) hi
  obtain ⟨p, hp⟩ : ∃ p, p = at48 l i := ⟨_, rfl⟩
  obtain ⟨q, hq⟩ : ∃ q, q = at48 l (i + 1) := ⟨_, rfl⟩
  rw [← hp] at h1 u s b1
  rw [← hq] at h2 u s b2
  have hprod : 0 ≤ (q.f1 - p.f1) * (v - p.f0) := Int.mul_nonneg (by omega) (by omega)
  have hprod2 : (q.f1 - p.f1) * (v - p.f0) ≤ (q.f1 - p.f1) * (q.f0 - p.f0) := Int.mul_le_mul_of_nonneg_left (by omega) (by omega)
  have hprod3 : (q.f1 - p.f1) * (q.f0 - p.f0) ≤ 16384 * (q.f0 - p.f0) := Int.mul_le_mul_of_nonneg_right (by omega) (by omega)
  obtain ⟨o1, g1⟩ := mul_int (fin64 (q.f1 - p.f1) (by omega)) (fin64 (v - p.f0) (by omega)) (by omega)
  have hbig : (((q.f1 - p.f1) * (v - p.f0) : Int) : Rat) ≤ P2 40 ∧ -(((q.f1 - p.f1) * (v - p.f0) : Int) : Rat) ≤ P2 40 := by
    have a1 := icast (show (q.f1 - p.f1) * (v - p.f0) ≤ 1000000000 by omega)
    have a2 := icast hprod
    have e : ((1000000000 : Int) : Rat) = 1000000000 := rfl
    have e0 : ((0 : Int) : Rat) = 0 := rfl
    have p40 : (1000000000 : Rat) ≤ P2 40 := by decide +kernel
    rw [e] at a1
    rw [e0] at a2
    constructor <;> grind
  obtain ⟨t, n, hr, hf, n1, n2⟩ := round_fin g1 hbig.1 hbig.2
  have hn : n = (q.f1 - p.f1) * (v - p.f0) := by
    have c1 : (n : Rat) < (((q.f1 - p.f1) * (v - p.f0) + 1 : Int) : Rat) := by
      rw [Rat.intCast_add]; show _ < _ + (1 : Rat); grind
    have c2 : (((q.f1 - p.f1) * (v - p.f0) : Int) : Rat) < ((n + 1 : Int) : Rat) := by
      rw [Rat.intCast_add]; show _ < _ + (1 : Rat); grind
    have c3 := Rat.intCast_lt_intCast.1 c1
    have c4 := Rat.intCast_lt_intCast.1 c2
    omega
  rw [hn] at hf
  obtain ⟨o2, o3, o4⟩ := floor_quo hf (fin64 (q.f0 - p.f0) (by omega)) hprod (by omega) (by omega) (by omega)
  have F0 : 0 ≤ (q.f1 - p.f1) * (v - p.f0) / (q.f0 - p.f0) := Int.ediv_nonneg hprod (by omega)
  have F1 : (q.f1 - p.f1) * (v - p.f0) / (q.f0 - p.f0) ≤ q.f1 - p.f1 := Int.ediv_le_of_le_mul (by omega) (by omega)
  refine ⟨p.f1 + (q.f1 - p.f1) * (v - p.f0) / (q.f0 - p.f0), fun k => ?_, ?_⟩
  · rw [tables_SegmentMaps_Map.j9, if_neg (by omega), if_neg (by omega), wpred i (by omega), if_pos (by omega), conv_len, if_pos (by omega), if_pos (by omega), if_pos (by omega)]
    rw [(rd177 l i).1, (rd177 l i).2, (rd177 l (i + 1)).1, (rd177 l (i + 1)).2, ← hp, ← hq, i16w (q.f1 - p.f1) (by omega), i16w (v - p.f0) (by omega), i16w (q.f0 - p.f0) (by omega)]
    rw [if_pos o1, hr, Option.bind_some, if_pos o2, if_pos o3, o4, i16w _ (by omega)]
  · refine ⟨gab p q (v : Rat), ⟨i, hi, by rw [← hp]; exact icast (by omega), by rw [← hq]; exact icast (by omega), by rw [← hp, ← hq]⟩, ?_, ?_⟩
    all_goals
      unfold gab
      have hE : (0 : Rat) < ((q.f0 - p.f0 : Int) : Rat) := icast_lt (by omega : (0 : Int) < q.f0 - p.f0)
      have e1 : ((v : Rat) - (p.f0 : Rat)) * ((q.f1 - p.f1 : Int) : Rat) = (((q.f1 - p.f1) * (v - p.f0) : Int) : Rat) := by
        rw [← Rat.intCast_sub, ← Rat.intCast_mul, Int.mul_comm]
      rw [e1, Rat.intCast_add]
    · have a1 := Int.ediv_mul_le ((q.f1 - p.f1) * (v - p.f0)) (show q.f0 - p.f0 ≠ 0 by omega)
      have a2 := icast a1
      rw [Rat.intCast_mul] at a2
      have a3 := le_div_of hE a2
      grind
    · have a1 := Int.lt_ediv_add_one_mul_self ((q.f1 - p.f1) * (v - p.f0)) (show 0 < q.f0 - p.f0 by omega)
      have a2 := icast_lt a1
      rw [show ((((q.f1 - p.f1) * (v - p.f0) / (q.f0 - p.f0) + 1) * (q.f0 - p.f0) : Int) : Rat) = ((((q.f1 - p.f1) * (v - p.f0) / (q.f0 - p.f0) : Int) : Rat) + 1) * ((q.f0 - p.f0 : Int) : Rat) by rw [Rat.intCast_mul, Rat.intCast_add]; rfl] at a2
      have a3 : (((q.f1 - p.f1) * (v - p.f0) : Int) : Rat) / ((q.f0 - p.f0 : Int) : Rat) < (((q.f1 - p.f1) * (v - p.f0) / (q.f0 - p.f0) : Int) : Rat) + 1 := by
        have a4 : (((q.f1 - p.f1) * (v - p.f0) : Int) : Rat) / ((q.f0 - p.f0 : Int) : Rat) * ((q.f0 - p.f0 : Int) : Rat) < ((((q.f1 - p.f1) * (v - p.f0) / (q.f0 - p.f0) : Int) : Rat) + 1) * ((q.f0 - p.f0 : Int) : Rat) := by
          rw [Rat.div_mul_cancel (by grind)]
          exact a2
        exact (Rat.mul_lt_mul_right hE).1 a4
      grind
theorem map_l2 {l : List S48} (h : Seg l) (v : Int) (hv : -16384 ≤ v ∧ v ≤ 16384) (hne : ∀ i, i < l.length → v ≠ (at48 l i).f0) : ∀ (d i : Nat), i + d = l.length → (∀ j, j < i → (at48 l j).f0 < v) → EvP (fun k => tables_SegmentMaps_Map.l2 k v (conv l) (l.length : Int) (i : Int)) (MapOk l v)
  | 0, i, hd, hj => by
    exfalso
    have := hj (l.length - 1) (by have := h.len; omega)
    rw [h.lst] at this
    omega
  | d + 1, i, hd, hj => by
    have hl := h.len
    by_cases c : v < (at48 l i).f0
    · have hi0 : i ≠ 0 := by
        rintro rfl
        rw [h.fst] at c
        omega
      obtain ⟨j, rfl⟩ : ∃ j, i = j + 1 := ⟨i - 1, by omega⟩
      obtain ⟨y, hy, hm⟩ := map_lerp h j (by omega) v (hj j (by omega)) c
      refine EvP.step (f := fun k => tables_SegmentMaps_Map.j9 k v (conv l) (l.length : Int) ((j + 1 : Nat) : Int)) (fun k => ?_) (EvP.step (f := fun _ => some y) hy (EvP.now _ hm))
      rw [tables_SegmentMaps_Map.l2, if_pos (by omega), if_pos (by omega), if_pos (by rw [conv_len]; omega), (rd177 l (j + 1)).1, if_pos c]
    · refine EvP.step (fun k => ?_) (map_l2 h v hv hne d (i + 1) (by omega) (fun j hj2 => ?_))
      · rw [tables_SegmentMaps_Map.l2, if_pos (by omega), if_pos (by omega), if_pos (by rw [conv_len]; omega), (rd177 l i).1, if_neg c, wsucc i (by omega)]
      · rcases Nat.lt_or_ge j i with k | k
        · exact hj j k
        · have : j = i := by omega
          subst this
          have := hne j (by omega)
          omega
theorem map_l0 {l : List S48} (h : Seg l) (v : Int) (hv : -16384 ≤ v ∧ v ≤ 16384) : ∀ (d i : Nat), i + d = l.length → (∀ j, j < i → v ≠ (at48 l j).f0) → EvP (fun k => tables_SegmentMaps_Map.l0 k v (conv l) 0 (l.length : Int) (i : Int)) (MapOk l v)
  | 0, i, hd, hj => by
    have hl := h.len
    refine EvP.step (f := fun k => tables_SegmentMaps_Map.j5 k v (conv l) 0 (l.length : Int) (i : Int)) (fun k => ?_) (EvP.step (fun k => ?_) (map_l2 h v hv (fun j hj2 => hj j (by omega)) l.length 0 (by omega) (fun j hj2 => by omega)))
    · rw [tables_SegmentMaps_Map.l0, if_neg (by omega)]
    · rw [tables_SegmentMaps_Map.j5, if_neg (by omega)]
      rfl
  | d + 1, i, hd, hj => by
    have hl := h.len
    by_cases c : v = (at48 l i).f0
    · refine EvP.step (f := fun k => tables_SegmentMaps_Map.j5 k v (conv l) 0 (l.length : Int) (i : Int)) (fun k => ?_) ?_
      · rw [tables_SegmentMaps_Map.l0, if_pos (by omega), if_pos (by omega), if_pos (by rw [conv_len]; omega), (rd177 l i).1, if_pos c]
      refine EvP.step (f := fun k => tables_SegmentMaps_Map.l1 k v (conv l) (l.length : Int) (i : Int) (i : Int)) (fun k => ?_) ?_
      · rw [tables_SegmentMaps_Map.j5, if_pos (by omega)]
      refine EvP.step (f := fun k => tables_SegmentMaps_Map.j7 k v (conv l) (i : Int) (i : Int)) (fun k => ?_) ?_
      · rw [tables_SegmentMaps_Map.l1, wsucc i (by omega)]
        by_cases c2 : ((i + 1 : Nat) : Int) < (l.length : Int)
        · rw [if_pos c2, if_pos (by omega), if_pos (by rw [conv_len]; omega), (rd177 l (i + 1)).1, if_neg (by have := (h.up i (by omega)).1; omega)]
        · rw [if_neg c2]
      refine EvP.step (f := fun _ => some (at48 l i).f1) (fun k => ?_) (EvP.now _ (by rw [c]; exact map_at h i (by omega)))
      rw [tables_SegmentMaps_Map.j7, if_pos rfl, if_pos (by omega), if_pos (by rw [conv_len]; omega), (rd177 l i).2]
    · refine EvP.step (fun k => ?_) (map_l0 h v hv d (i + 1) (by omega) (fun j hj2 => ?_))
      · rw [tables_SegmentMaps_Map.l0, if_pos (by omega), if_pos (by omega), if_pos (by rw [conv_len]; omega), (rd177 l i).1, if_neg c, wsucc i (by omega)]
      · rcases Nat.lt_or_ge j i with k | k
        · exact hj j k
        · have : j = i := by omega
          rw [this]; exact c

theorem map_is {l : List S48} (h : Seg l) (v : Int) (hv : -16384 ≤ v ∧ v ≤ 16384) : EvP (fun k => tables_SegmentMaps_Map.f k (conv l) v) (MapOk l v) := by
  have hl := h.len
  have hz : ∀ k x, tables_SegmentMaps_Map.j0 (k + 1) v (conv l) 0 x false = tables_SegmentMaps_Map.j1 k v (conv l) 0 x := fun k x => by rw [tables_SegmentMaps_Map.j0, if_neg (by simp)]
  have main : EvP (fun k => tables_SegmentMaps_Map.j0 k v (conv l) 0 (l.length : Int) false) (MapOk l v) := by
    refine EvP.step (fun k => hz k _) ?_
    refine EvP.step (f := fun k => tables_SegmentMaps_Map.j2 k v (conv l) 0 (l.length : Int) false) (fun k => ?_) ?_
    · obtain ⟨m, hm⟩ : ∃ m, l.length = m + 2 := ⟨l.length - 2, by omega⟩
      have w1 : wrap64 ((l.length : Int) - 1) = ((m + 1 : Nat) : Int) := by rw [w64 _ (by omega)]; omega
      have w2 : wrap64 ((l.length : Int) - 2) = (m : Int) := by rw [w64 _ (by omega)]; omega
      rw [tables_SegmentMaps_Map.j1, w1, w2, conv_len, if_pos (by omega), if_pos (by omega), (rd177 l (m + 1)).1, (rd177 l (m + 1)).2, (rd177 l m).1]
      have u := (h.up m (by omega)).1
      have e := h.lst
      rw [hm, show m + 2 - 1 = m + 1 by omega] at e
      have hb : ((at48 l m).f0 == 16384) = false := beq_eq_false_iff_ne.2 (by omega)
      rw [hb]
      by_cases c1 : (at48 l (m + 1)).f0 = 16384
      · rw [if_pos c1]
        by_cases c2 : (at48 l (m + 1)).f1 = 16384
        · rw [if_pos c2, if_pos (by omega), if_pos (by omega)]
        · rw [if_neg c2]
      · rw [if_neg c1]
    refine EvP.step (f := fun k => tables_SegmentMaps_Map.j3 k v (conv l) 0 (l.length : Int)) (fun k => by rw [tables_SegmentMaps_Map.j2, if_neg (by simp)]) ?_
    refine EvP.step (fun k => ?_) (map_l0 h v hv l.length 0 (by omega) (fun j hj => by omega))
    rw [tables_SegmentMaps_Map.j3]
    rfl
  refine EvP.congr (fun k => ?_) main
  unfold tables_SegmentMaps_Map.f
  rw [conv_len, if_neg (by omega), if_neg (by omega), if_pos (by omega)]
  have r0 : rd_T177 (conv l) 0 = rd_T177 (conv l) ((0 : Nat) : Int) := rfl
  have r1 : rd_T177 (conv l) ((0 : Int) + 1) = rd_T177 (conv l) ((1 : Nat) : Int) := rfl
  rw [r0, r1, (rd177 l 0).1, (rd177 l 0).2, (rd177 l 1).1]
  have u := (h.up 0 (by omega)).1
  rw [h.fst] at u
  have hb : ((at48 l 1).f0 == -16384) = false := beq_eq_false_iff_ne.2 (by simp at u; omega)
  rw [hb, if_pos h.fst]
  by_cases c2 : (at48 l 0).f1 = -16384
  · rw [if_pos c2, if_pos (by omega), if_pos (by omega)]
  · rw [if_neg c2]
/-! the reference's -/
theorem mapref_j1 (l : List S48) (i : Nat) (h : Seg l) (hi : i + 1 < l.length) {b : Nat} {X : Rat} (hb : Fin .f64 b X) (h1 : ((at48 l i).f0 : Rat) ≤ X) (h2 : X ≤ ((at48 l (i + 1)).f0 : Rat)) :
    ∃ c Z, (∀ k, spec_MapRef.j1 (k + 1) l b ((i + 1 : Nat) : Int) true (at48 l i).f0 (at48 l i).f1 (at48 l (i + 1)).f0 (at48 l (i + 1)).f1 = some c) ∧ Fin .f64 c Z ∧ Cl Z (gab (at48 l i) (at48 l (i + 1)) X) (1 / 10000) := by
  have u := h.up i hi
  have s := h.sp i hi
  have b1 := h.bd i (by omega)
  have b2 := h.bd (i + 1) hi
  obtain ⟨p, hp⟩ : ∃ p, p = at48 l i := ⟨_, rfl⟩
  obtain ⟨q, hq⟩ : ∃ q, q = at48 l (i + 1) := ⟨_, rfl⟩
  rw [← hp] at u s b1 h1 ⊢
  rw [← hq] at u s b2 h2 ⊢
  have hE : (0 : Rat) < ((q.f0 - p.f0 : Int) : Rat) := icast_lt (by omega : (0 : Int) < q.f0 - p.f0)
  have hE1 : (1 : Rat) ≤ ((q.f0 - p.f0 : Int) : Rat) := icast (by omega : (1 : Int) ≤ q.f0 - p.f0)
  have hE2 : ((q.f0 - p.f0 : Int) : Rat) ≤ 16384 := icast (by omega : q.f0 - p.f0 ≤ (16384 : Int))
  have hD : (0 : Rat) ≤ ((q.f1 - p.f1 : Int) : Rat) := icast (by omega : (0 : Int) ≤ q.f1 - p.f1)
  have hD2 : ((q.f1 - p.f1 : Int) : Rat) ≤ 16384 := icast (by omega : q.f1 - p.f1 ≤ (16384 : Int))
  have hA : (-16384 : Rat) ≤ (p.f1 : Rat) := icast b1.2.2.1
  have hA2 : (p.f1 : Rat) ≤ 16384 := icast b1.2.2.2
  obtain ⟨U, hU⟩ : ∃ U : Rat, U = X - (p.f0 : Rat) := ⟨_, rfl⟩
  have hU0 : 0 ≤ U := by grind
  have hU1 : U ≤ ((q.f0 - p.f0 : Int) : Rat) := by rw [Rat.intCast_sub]; grind
  unfold gab
  rw [← hU]
  obtain ⟨D, hDd⟩ : ∃ D : Rat, D = ((q.f1 - p.f1 : Int) : Rat) := ⟨_, rfl⟩
  obtain ⟨E, hEd⟩ : ∃ E : Rat, E = ((q.f0 - p.f0 : Int) : Rat) := ⟨_, rfl⟩
  have fD : Fin .f64 (floatOfInt .f64 (wrap64 (q.f1 - p.f1))) D := by rw [w64 _ (by omega), hDd]; exact fin64 _ (by omega)
  have fE : Fin .f64 (floatOfInt .f64 (wrap64 (q.f0 - p.f0))) E := by rw [w64 _ (by omega), hEd]; exact fin64 _ (by omega)
  rw [← hEd] at hE hE1 hE2 hU1
  rw [← hDd] at hD hD2
  rw [← hDd, ← hEd]
  obtain ⟨o1, z1, g1, c1⟩ := sub64 hb (fin64 p.f0 (by omega)) (by grind) (by grind)
  rw [← hU] at c1
  unfold Cl at c1
  have hz1 : -1 ≤ z1 ∧ z1 ≤ 16385 := by constructor <;> grind
  have m1 : U * D ≤ 16384 * 16384 := by
    have a1 := mul_mono (show U ≤ 16384 by grind) hD
    have a2 := Rat.mul_le_mul_of_nonneg_left hD2 (show (0 : Rat) ≤ 16384 by decide +kernel)
    grind
  have m0 : 0 ≤ U * D := Rat.mul_nonneg hU0 hD
  have m2 : z1 * D ≤ U * D + 1 / 60000 := by
    have a1 := mul_mono c1.1 hD
    grind
  have m3 : U * D ≤ z1 * D + 1 / 60000 := by
    have a1 := mul_mono c1.2 hD
    grind
  obtain ⟨o2, z2, g2, c2⟩ := mul64 g1 fD (by grind) (by grind)
  unfold Cl at c2
  have hne : E ≠ 0 := by grind
  have q0 : U * D / E ≤ 16384 := div_le_of hE (by
    have a1 := mul_mono hU1 hD
    have a2 := Rat.mul_le_mul_of_nonneg_left hD2 (Rat.le_of_lt hE)
    grind)
  have q00 : 0 ≤ U * D / E := le_div_of hE (by grind)
  have q1 : z2 / E ≤ U * D / E + 1 / 50000 := div_le_of hE (by
    have a1 := Rat.div_mul_cancel hne (a := U * D)
    have a2 : (U * D / E + 1 / 50000) * E = U * D + E / 50000 := by grind
    rw [a2]
    grind)
  have q2 : U * D / E ≤ z2 / E + 1 / 50000 := div_le_of hE (by
    have a1 := Rat.div_mul_cancel hne (a := z2)
    have a2 : (z2 / E + 1 / 50000) * E = z2 + E / 50000 := by grind
    rw [a2]
    grind)
  obtain ⟨o3, z3, g3, c3, _⟩ := div64 g2 fE hne (by grind) (by grind)
  unfold Cl at c3
  obtain ⟨o4, z4, g4, c4⟩ := add64 (fin64 p.f1 (by omega)) g3 (by grind) (by grind)
  unfold Cl at c4
  refine ⟨_, z4, fun k => ?_, g4, ?_⟩
  · rw [spec_MapRef.j1, if_pos rfl, if_pos o1, if_pos o2, if_pos o3, if_pos o4]
  · unfold Cl
    constructor <;> grind
theorem mapref_l0 (l : List S48) (h : Seg l) {b : Nat} {X : Rat} (hb : Fin .f64 b X) (hX : X ≤ 16384) : ∀ (d i : Nat), i + 1 + d = l.length → (((at48 l i).f0 : Rat) < X ∨ i = 0 ∧ ((at48 l i).f0 : Rat) ≤ X) → EvP (fun k => spec_MapRef.l0 k l b ((i + 1 : Nat) : Int)) fun c => ∃ Z z, Fin .f64 c Z ∧ Cl Z z (1 / 10000) ∧ PM l X z
  | 0, i, hd, hi => by
    exfalso
    have hl := h.len
    rcases hi with hi | hi
    · have e := h.lst
      rw [show l.length - 1 = i by omega] at e
      rw [e] at hi
      have : ((16384 : Int) : Rat) = 16384 := rfl
      grind
    · omega
  | d + 1, i, hd, hi => by
    have hl := h.len
    have b1 := h.bd i (by omega)
    have b2 := h.bd (i + 1) (by omega)
    have h1 : ((at48 l i).f0 : Rat) ≤ X := by rcases hi with hi | hi <;> grind
    have og := order_fin hb (fin64 (at48 l i).f0 (by omega))
    have oh := order_fin hb (fin64 (at48 l (i + 1)).f0 (by omega))
    have cg : (FloatKind.f64.format.order b (floatOfInt .f64 (at48 l i).f0) == some .gt || FloatKind.f64.format.order b (floatOfInt .f64 (at48 l i).f0) == some .eq) = true := by
      rw [og.2.2.1, og.2.1]
      simp only [Bool.or_eq_true, decide_eq_true_eq]
      grind
    have step : ∀ k, spec_MapRef.l0 (k + 1) l b ((i + 1 : Nat) : Int) = spec_MapRef.j1 k l b ((i + 1 : Nat) : Int) (FloatKind.f64.format.order b (floatOfInt .f64 (at48 l (i + 1)).f0) == some .lt || FloatKind.f64.format.order b (floatOfInt .f64 (at48 l (i + 1)).f0) == some .eq) (at48 l i).f0 (at48 l i).f1 (at48 l (i + 1)).f0 (at48 l (i + 1)).f1 := fun k => by
      rw [spec_MapRef.l0, if_pos (by omega), wpred i (by omega), if_pos (by omega), if_pos (by omega), if_pos (by omega), rd48, rd48, if_pos cg]
    refine EvP.step step ?_
    by_cases h2 : X ≤ ((at48 l (i + 1)).f0 : Rat)
    · have ch : (FloatKind.f64.format.order b (floatOfInt .f64 (at48 l (i + 1)).f0) == some .lt || FloatKind.f64.format.order b (floatOfInt .f64 (at48 l (i + 1)).f0) == some .eq) = true := by
        rw [oh.1, oh.2.1]
        simp only [Bool.or_eq_true, decide_eq_true_eq]
        grind
      rw [ch]
      obtain ⟨c, Z, hk, hf, hc⟩ := mapref_j1 l i h (by omega) hb h1 h2
      exact EvP.step (f := fun _ => some c) hk (EvP.now _ ⟨Z, _, hf, hc, i, by omega, h1, h2, rfl⟩)
    · have ch : (FloatKind.f64.format.order b (floatOfInt .f64 (at48 l (i + 1)).f0) == some .lt || FloatKind.f64.format.order b (floatOfInt .f64 (at48 l (i + 1)).f0) == some .eq) = false := by
        rw [oh.1, oh.2.1]
        simp only [Bool.or_eq_false_iff, decide_eq_false_iff_not]
        grind
      rw [ch]
      refine EvP.step (fun k => ?_) (mapref_l0 l h hb hX d (i + 1) (by omega) (.inl (by grind)))
      rw [spec_MapRef.j1, if_neg (by simp), wsucc _ (by omega)]
theorem mapref_is (l : List S48) (h : Seg l) {b : Nat} {X : Rat} (hb : Fin .f64 b X) (h0 : -16384 ≤ X) (hX : X ≤ 16384) : EvP (fun k => spec_MapRef.f k l b) fun c => ∃ Z z, Fin .f64 c Z ∧ Cl Z z (1 / 10000) ∧ PM l X z := by
  have hl := h.len
  refine EvP.congr (fun k => rfl) (mapref_l0 l h hb hX (l.length - 1) 0 (by omega) (.inr ⟨rfl, ?_⟩))
  rw [h.fst]
  exact h0

/-! ### all coordinates -/
theorem take_one {α : Type} (l : List α) (i : Nat) (h : i < l.length) : l.take i ++ [l[i]] = l.take (i + 1) := by
  rw [List.take_add_one, List.getElem?_eq_getElem h]
  rfl
def NOk (s : S92) (c : Nat) (n : Int) : Prop := -16384 ≤ n ∧ n ≤ 16384 ∧ ∃ W : Rat, Cl (n : Rat) W (51 / 100) ∧ ∃ (b : Nat) (R : Rat), spec_NormalRef.f s.f0 s.f1 s.f2 c = some b ∧ Fin .f64 b R ∧ Cl R W (1 / 100000)
theorem axis_of {s : S92} {c : Nat} (h : AxOk s) (k : CoOk c) : Nonempty (Axis s c) := by
  obtain ⟨a, u, m, hs, b⟩ := h
  obtain ⟨n, hc, b2⟩ := k
  exact ⟨⟨a, u, m, n, hs, hc, by omega⟩⟩
def recs (A : List S92) : List S170 := A.map fun s => ⟨0, s.f0, s.f1, s.f2, 0, 0⟩
def segs (S : List (List S48)) : List S174 := S.map fun l => ⟨conv l⟩
def at92 (A : List S92) (i : Nat) : S92 := A.getD i z92
def atN (C : List Nat) (i : Nat) : Nat := C.getD i 0
theorem rd_rec (A : List S92) (i : Nat) (h : i < A.length) : rd_T170 (recs A) (i : Int) = ⟨0, (at92 A i).f0, (at92 A i).f1, (at92 A i).f2, 0, 0⟩ := by
  show (recs A).getD i z170 = _
  unfold recs at92
  rw [List.getD_eq_getElem?_getD, List.getD_eq_getElem?_getD, List.getElem?_map, List.getElem?_eq_getElem h]
  rfl
theorem mem_at {A : List S92} {i : Nat} (h : i < A.length) : at92 A i ∈ A := by
  unfold at92
  rw [List.getD_eq_getElem?_getD, List.getElem?_eq_getElem h]
  exact List.getElem_mem h
theorem mem_atN {A : List Nat} {i : Nat} (h : i < A.length) : atN A i ∈ A := by
  unfold atN
  rw [List.getD_eq_getElem?_getD, List.getElem?_eq_getElem h]
  exact List.getElem_mem h
theorem rd_set (N : List Int) (i j : Nat) (n : Int) (h : i < N.length) : rd (N.set i n) (j : Int) = if i = j then n else rd N (j : Int) := by
  have e : ∀ (L : List Int), rd L (j : Int) = L.getD j 0 := fun L => by unfold rd; rw [Int.toNat_natCast]
  rw [e, e, List.getD_eq_getElem?_getD, List.getD_eq_getElem?_getD, List.getElem?_set]
  split
  · rename_i hij
    subst hij
    first | rfl | (rw [if_pos h]; rfl)
  · rfl
theorem nc_l0 (A : List S92) (C : List Nat) (hlen : C.length = A.length) (hA4 : A.length ≤ 4) (hA : ∀ s ∈ A, AxOk s) (hC : ∀ c ∈ C, CoOk c) :
    ∀ (d i : Nat) (N : List Int), i + d = A.length → N.length = A.length → (∀ j, j < i → NOk (at92 A j) (atN C j) (rd N (j : Int))) →
    EvP (fun k => font_fvar_normalizeCoordinates.l0 k C N (recs A) (A.length : Int) (i : Int)) fun N' => N'.length = A.length ∧ ∀ j, j < A.length → NOk (at92 A j) (atN C j) (rd N' (j : Int))
  | 0, i, N, hd, hN, hj => by
    refine EvP.step (f := fun _ => some N) (fun k => ?_) (EvP.now _ ⟨hN, fun j hj2 => hj j (by omega)⟩)
    rw [font_fvar_normalizeCoordinates.l0, if_neg (by omega)]
  | d + 1, i, N, hd, hN, hj => by
    obtain ⟨x⟩ := axis_of (hA _ (mem_at (A := A) (i := i) (by omega))) (hC _ (mem_atN (A := C) (i := i) (by omega)))
    obtain ⟨n, n1, n2, n3, hstep⟩ := code_one x
    obtain ⟨b, R, r1, r2, r3⟩ := ref_one x
    have hrl : (recs A).length = A.length := by simp [recs]
    have ec : rdOf (0 : Nat) C (i : Int) = atN C i := rfl
    refine EvP.step (f := fun k => font_fvar_normalizeCoordinates.j1 k C N (i : Int) (if (FloatKind.f32.format.order (atN C i) (at92 A i).f2 == some .gt) = true then (at92 A i).f2 else if (FloatKind.f32.format.order (atN C i) (at92 A i).f0 == some .lt) = true then (at92 A i).f0 else atN C i) (recs A) (A.length : Int) (i : Int) 0 (at92 A i).f0 (at92 A i).f1 (at92 A i).f2 0 0) (fun k => ?_) ?_
    · rw [font_fvar_normalizeCoordinates.l0, if_pos (by omega), if_pos (by omega), if_pos (by rw [hrl]; omega), if_pos (by omega), rd_rec A i (by omega), ec]
      by_cases c1 : (FloatKind.f32.format.order (atN C i) (at92 A i).f2 == some .gt) = true
      · rw [if_pos c1, if_pos c1]
      · rw [if_neg c1, if_neg c1]
        by_cases c2 : (FloatKind.f32.format.order (atN C i) (at92 A i).f0 == some .lt) = true
        · rw [if_pos c2, if_pos c2]
        · rw [if_neg c2, if_neg c2]
    refine EvP.step (fun k => hstep k C N (i : Int) (recs A) (A.length : Int)) ?_
    refine EvP.congr (fun k => by rw [if_pos (by omega), if_pos (by omega), wsucc i (by omega), Int.toNat_natCast]) (nc_l0 A C hlen hA4 hA hC d (i + 1) (N.set i n) (by omega) (by rw [List.length_set, hN]) (fun j hj2 => ?_))
    rw [rd_set N i j n (by omega)]
    split
    · rename_i hij
      subst hij
      exact ⟨n1, n2, x.W, n3, b, R, r1, r2, r3⟩
    · exact hj j (by omega)
theorem nc_is (A : List S92) (C : List Nat) (hlen : C.length = A.length) (hA4 : A.length ≤ 4) (hA : ∀ s ∈ A, AxOk s) (hC : ∀ c ∈ C, CoOk c) :
    EvP (fun k => font_fvar_normalizeCoordinates.f k (recs A) C) fun N' => N'.length = A.length ∧ ∀ j, j < A.length → NOk (at92 A j) (atN C j) (rd N' (j : Int)) := by
  have hrl : (recs A).length = A.length := by simp [recs]
  refine EvP.congr (fun k => ?_) (nc_l0 A C hlen hA4 hA hC A.length 0 (List.replicate C.length 0) (by omega) (by rw [List.length_replicate, hlen]) (fun j hj => by omega))
  unfold font_fvar_normalizeCoordinates.f
  rw [if_pos (by omega), Int.toNat_natCast, if_pos (by omega), hrl]
  rfl
def atS (S : List (List S48)) (i : Nat) : List S48 := S.getD i []
theorem mem_atS {S : List (List S48)} {i : Nat} (h : i < S.length) : atS S i ∈ S := by
  unfold atS
  rw [List.getD_eq_getElem?_getD, List.getElem?_eq_getElem h]
  exact List.getElem_mem h
theorem rd_seg (S : List (List S48)) (i : Nat) (h : i < S.length) : (rd_T174 (segs S) (i : Int)).f0 = conv (atS S i) := by
  show ((segs S).getD i z174).f0 = _
  unfold segs atS
  rw [List.getD_eq_getElem?_getD, List.getD_eq_getElem?_getD, List.getElem?_map, List.getElem?_eq_getElem h]
  rfl
/-- What stands for an axis in the end. -/
def Res (A : List S92) (C : List Nat) (S : List (List S48)) (j : Nat) (y : Int) : Prop := -16385 ≤ y ∧ y ≤ 16384 ∧ ∃ v, NOk (at92 A j) (atN C j) v ∧ ((S = [] ∧ y = v) ∨ (j < S.length ∧ MapOk (atS S j) v y))
theorem map_bd {l : List S48} (h : Seg l) {v y : Int} (hm : MapOk l v y) : -16385 ≤ y ∧ y ≤ 16384 := by
  obtain ⟨z, ⟨i, i1, i2, i3, rfl⟩, h1, h2⟩ := hm
  have u := h.up i i1
  have b1 := h.bd i (by omega)
  have b2 := h.bd (i + 1) i1
  have a1 := gab_mono u.1 u.2 i2
  rw [gab_lo _ _ u.1] at a1
  have a2 := gab_mono u.1 u.2 i3
  rw [gab_hi _ _ u.1] at a2
  have c1 : (y : Rat) ≤ ((at48 l (i + 1)).f1 : Rat) := by grind
  have c2 := Rat.intCast_le_intCast.1 c1
  have c3 : ((at48 l i).f1 : Rat) < ((y + 1 : Int) : Rat) := by rw [Rat.intCast_add]; show _ < _ + (1 : Rat); grind
  have c4 := Rat.intCast_lt_intCast.1 c3
  omega
theorem nv_l0 (A : List S92) (C : List Nat) (S : List (List S48)) (hA4 : A.length ≤ 4) (hSl : S.length = A.length) (hS : ∀ s ∈ S, Seg s) :
    ∀ (d i : Nat) (N : List Int), i + d = A.length → N.length = A.length → (∀ j, j < i → Res A C S j (rd N (j : Int))) → (∀ j, i ≤ j → j < A.length → NOk (at92 A j) (atN C j) (rd N (j : Int))) →
    EvP (fun k => font_Font_NormalizeVariations.l0 k N (segs S) (A.length : Int) (i : Int)) fun N' => N'.length = A.length ∧ ∀ j, j < A.length → Res A C S j (rd N' (j : Int))
  | 0, i, N, hd, hN, hj, _ => by
    refine EvP.step (f := fun _ => some N) (fun k => ?_) (EvP.now _ ⟨hN, fun j hj2 => hj j (by omega)⟩)
    rw [font_Font_NormalizeVariations.l0, if_neg (by omega)]
  | d + 1, i, N, hd, hN, hj, hr => by
    have hsl : (segs S).length = A.length := by simp [segs, hSl]
    have hv := hr i (Nat.le_refl _) (by omega)
    have hseg := hS _ (mem_atS (S := S) (i := i) (by omega))
    refine EvP.step (f := fun k => (tables_SegmentMaps_Map.f k (conv (atS S i)) (rd N (i : Int))).bind fun t => font_Font_NormalizeVariations.l0 k (N.set i t) (segs S) (A.length : Int) ((i + 1 : Nat) : Int)) (fun k => ?_) ?_
    · rw [font_Font_NormalizeVariations.l0, if_pos (by omega), if_pos (by omega), if_pos (by rw [hsl]; omega), if_pos (by omega), rd_seg S i (by omega), wsucc i (by omega), Int.toNat_natCast]
    refine EvP.bindP (map_is hseg (rd N (i : Int)) ⟨hv.1, hv.2.1⟩) fun y hy => nv_l0 A C S hA4 hSl hS d (i + 1) (N.set i y) (by omega) (by rw [List.length_set, hN]) (fun j hj2 => ?_) (fun j hj2 hj3 => ?_)
    · rw [rd_set N i j y (by omega)]
      split
      · rename_i hij
        subst hij
        have := map_bd hseg hy
        exact ⟨this.1, this.2, _, hv, .inr ⟨by omega, hy⟩⟩
      · exact hj j (by omega)
    · rw [rd_set N i j y (by omega), if_neg (by omega)]
      exact hr j (by omega) hj3
theorem zz_is (A : List S92) (C : List Nat) (S : List (List S48)) (hlen : C.length = A.length) (hA4 : A.length ≤ 4) (hA : ∀ s ∈ A, AxOk s) (hC : ∀ c ∈ C, CoOk c) (hS : S = [] ∨ S.length = A.length ∧ ∀ s ∈ S, Seg s) :
    EvP (fun k => font_ZzNormalize.f k (recs A) (segs S) C) fun N' => N'.length = A.length ∧ ∀ j, j < A.length → Res A C S j (rd N' (j : Int)) := by
  unfold font_ZzNormalize.f font_Font_NormalizeVariations.f
  refine EvP.bindP (nc_is A C hlen hA4 hA hC) fun N hN => ?_
  rcases hS with rfl | ⟨h1, h2⟩
  · refine EvP.step (f := fun _ => some N) (fun k => ?_) (EvP.now _ ⟨hN.1, fun j hj => ?_⟩)
    · rw [font_Font_NormalizeVariations.l0, if_neg (by simp [segs])]
    · have := hN.2 j hj
      exact ⟨by have := this.1; omega, this.2.1, _, this, .inl ⟨rfl, rfl⟩⟩
  · have hsl : (segs S).length = A.length := by simp [segs, h1]
    have := nv_l0 A C S hA4 h1 h2 A.length 0 N (by omega) hN.1 (fun j hj => by omega) (fun j _ hj => hN.2 j hj)
    rw [hsl]
    exact this
/-! ### the thin package's -/
theorem must_ok (b : Bool) (h : b = true) : impl_builder_must.f 0 0 false b = some (0, 0, false) := by
  subst h
  rfl
theorem signed_ok (n : Int) (h : -16384 ≤ n ∧ n ≤ 16384) : impl_builder_signed.f 0 0 false n = some (n, 0, 0, false) := by
  unfold impl_builder_signed.f
  rw [if_pos (by omega), must_ok _ (decide_eq_true (by omega)), Option.bind_some, i16w _ (by omega)]
theorem coord_l0 (N : List Int) (hN : N.length ≤ 4) (hb : ∀ j, j < N.length → -16385 ≤ rd N (j : Int) ∧ rd N (j : Int) ≤ 16384) : ∀ (d i : Nat), i + d = N.length → Ev (fun k => tables_Coord.l0 k (N.take i) N (N.length : Int) (i : Int)) N
  | 0, i, hd => by
    refine Ev.step (f := fun _ => some N) (fun k => ?_) (Ev.now _)
    rw [tables_Coord.l0, if_neg (by omega), List.take_of_length_le (by omega)]
  | d + 1, i, hd => by
    refine Ev.step (fun k => ?_) (coord_l0 N hN hb d (i + 1) (by omega))
    have hbi := hb i (by omega)
    rw [tables_Coord.l0, if_pos (by omega), if_pos (by omega), if_pos (by omega), if_pos (by rw [List.length_take]; omega), w64 _ (by omega), wsucc i (by omega)]
    congr 1
    have e : rd N (i : Int) = N[i]'(by omega) := by
      unfold rd
      rw [Int.toNat_natCast, List.getD_eq_getElem?_getD, List.getElem?_eq_getElem (by omega)]
      rfl
    rw [e, take_one N i (by omega)]
theorem coord_is (N : List Int) (hN : N.length ≤ 4) (hb : ∀ j, j < N.length → -16385 ≤ rd N (j : Int) ∧ rd N (j : Int) ≤ 16384) : Ev (fun k => tables_Coord.f k N) N := by
  have := coord_l0 N hN hb N.length 0 (by omega)
  exact this
theorem ax_tests {s : S92} (h : AxOk s) : (FloatKind.f32.format.order s.f0 3338665984 == some .gt || FloatKind.f32.format.order s.f0 3338665984 == some .eq) = true ∧ (FloatKind.f32.format.order s.f0 s.f1 == some .lt || FloatKind.f32.format.order s.f0 s.f1 == some .eq) = true ∧ (FloatKind.f32.format.order s.f1 s.f2 == some .lt || FloatKind.f32.format.order s.f1 s.f2 == some .eq) = true ∧ (FloatKind.f32.format.order s.f2 1191181824 == some .lt || FloatKind.f32.format.order s.f2 1191181824 == some .eq) = true := by
  obtain ⟨a, u, m, rfl, b1, b2, b3, b4⟩ := h
  have fa := fin32 a (by omega)
  have fu := fin32 u (by omega)
  have fm := fin32 m (by omega)
  have f1 : Fin .f32 3338665984 ((-32768 : Int) : Rat) := wm32768_32
  have f2 : Fin .f32 1191181824 ((32767 : Int) : Rat) := w32767_32
  simp only [ord_gt fa f1, ord_eq fa f1, ord_lt fa fu, ord_eq fa fu, ord_lt fu fm, ord_eq fu fm, ord_lt fm f2, ord_eq fm f2, Bool.or_eq_true, decide_eq_true_eq]
  omega
theorem norm_l3 (A : List S92) (C : List Nat) (S : List (List S48)) (hC4 : C.length ≤ 4) (hC : ∀ c ∈ C, CoOk c) (Q : List Int × Bool → Prop) (hQ : EvP (fun k => (font_ZzNormalize.f k (recs A) (segs S) C).bind fun t => (tables_Coord.f k t).bind fun t2 => some (t2, true)) Q) :
    ∀ (d i : Nat), i + d = C.length → EvP (fun k => impl_Normalized.l3 k C (recs A) (segs S) C (C.length : Int) (i : Int) 0 0 false) Q
  | 0, i, hd => by
    refine EvP.step (fun k => ?_) hQ
    rw [impl_Normalized.l3, if_neg (by omega), if_neg (by simp)]
  | d + 1, i, hd => by
    refine EvP.step (fun k => ?_) (norm_l3 A C S hC4 hC Q hQ d (i + 1) (by omega))
    obtain ⟨n, hn, b⟩ := hC _ (mem_atN (A := C) (i := i) (by omega))
    have ec : rdOf (0 : Nat) C (i : Int) = atN C i := rfl
    have fn := fin32 n (by omega)
    rw [impl_Normalized.l3, if_pos (by omega), if_pos (by omega), if_pos (by omega), ec, hn, must_ok _ (by rw [ord_eq fn fn]; simp), Option.bind_some, wsucc i (by omega)]
theorem norm_l2 (A : List S92) (C : List Nat) (S : List (List S48)) (R : List S170) (T : List S174) (l : List S48) (hl : Seg l) (i : Nat) (hi : i < 4) (hT : T.length ≤ 4) (Q : List Int × Bool → Prop)
    (hQ : EvP (fun k => impl_Normalized.l1 k A S C R (T ++ [⟨conv l⟩]) S (S.length : Int) ((i + 1 : Nat) : Int) 0 0 false) Q) :
    ∀ (d j : Nat), j + d = l.length → EvP (fun k => impl_Normalized.l2 k A S C R T S (S.length : Int) (i : Int) l (l.length : Int) (j : Int) 0 0 false (conv (l.take j))) Q
  | 0, j, hd => by
    refine EvP.step (fun k => ?_) hQ
    have hlen := hl.len
    rw [impl_Normalized.l2, if_neg (by omega), if_pos (by omega), List.take_of_length_le (by omega), wsucc i (by omega)]
  | d + 1, j, hd => by
    have hlen := hl.len
    refine EvP.step (fun k => ?_) (norm_l2 A C S R T l hl i hi hT Q hQ d (j + 1) (by omega))
    have b := hl.bd j (by omega)
    rw [impl_Normalized.l2, if_pos (by omega), if_pos (by omega), if_pos (by omega), rd48, signed_ok _ ⟨b.1, b.2.1⟩, Option.bind_some, signed_ok _ ⟨b.2.2.1, b.2.2.2⟩, Option.bind_some, if_pos (by rw [conv_len, List.length_take]; omega), wsucc j (by omega)]
    have e : conv (l.take j) ++ [⟨(at48 l j).f0, (at48 l j).f1⟩] = conv (l.take (j + 1)) := by
      have e1 : at48 l j = l[j]'(by omega) := by
        unfold at48
        rw [List.getD_eq_getElem?_getD, List.getElem?_eq_getElem (by omega)]
        rfl
      rw [← take_one l j (by omega), ← e1]
      simp [conv]
    rw [e]
theorem norm_l1 (A : List S92) (C : List Nat) (S : List (List S48)) (hlen : C.length = A.length) (hA4 : A.length ≤ 4) (hC : ∀ c ∈ C, CoOk c) (hS : S = [] ∨ S.length = A.length ∧ ∀ s ∈ S, Seg s) (Q : List Int × Bool → Prop)
    (hQ : EvP (fun k => (font_ZzNormalize.f k (recs A) (segs S) C).bind fun t => (tables_Coord.f k t).bind fun t2 => some (t2, true)) Q) :
    ∀ (d i : Nat), i + d = S.length → EvP (fun k => impl_Normalized.l1 k A S C (recs A) (segs (S.take i)) S (S.length : Int) (i : Int) 0 0 false) Q
  | 0, i, hd => by
    have main : EvP (fun k => impl_Normalized.j3 k C (recs A) (segs S) 0 0 false) Q := by
      refine EvP.step (fun k => ?_) (norm_l3 A C S (by omega) hC Q hQ C.length 0 (by omega))
      rw [impl_Normalized.j3]
      rfl
    refine EvP.step (fun k => ?_) main
    rw [impl_Normalized.l1, if_neg (by omega), if_pos (by omega), List.take_of_length_le (by omega)]
    rcases hS with rfl | ⟨h1, _⟩
    · rw [if_pos (by simp), must_ok true rfl, Option.bind_some]
    · by_cases h0 : (S.length : Int) = 0
      · rw [if_pos h0, must_ok true rfl, Option.bind_some]
      · rw [if_neg h0, must_ok _ (beq_iff_eq.2 (by omega)), Option.bind_some]
  | d + 1, i, hd => by
    have hs : S.length = A.length ∧ ∀ s ∈ S, Seg s := by
      rcases hS with rfl | h
      · simp at hd
      · exact h
    have hseg := hs.2 _ (mem_atS (S := S) (i := i) (by omega))
    have e : segs (S.take i) ++ [⟨conv (atS S i)⟩] = segs (S.take (i + 1)) := by
      have e1 : atS S i = S[i]'(by omega) := by
        unfold atS
        rw [List.getD_eq_getElem?_getD, List.getElem?_eq_getElem (by omega)]
        rfl
      rw [← take_one S i (by omega), ← e1]
      simp [segs]
    refine EvP.step (fun k => ?_) (norm_l2 A C S (recs A) (segs (S.take i)) (atS S i) hseg i (by omega) (by simp [segs]; omega) Q (by rw [e]; exact norm_l1 A C S hlen hA4 hC hS Q hQ d (i + 1) (by omega)) (atS S i).length 0 (by omega))
    rw [impl_Normalized.l1, if_pos (by omega), if_pos (by omega), if_pos (by omega)]
    rfl
theorem norm_l0 (A : List S92) (C : List Nat) (S : List (List S48)) (hA4 : A.length ≤ 4) (hA : ∀ s ∈ A, AxOk s) (Q : List Int × Bool → Prop)
    (hQ : EvP (fun k => impl_Normalized.l1 k A S C (recs A) [] S (S.length : Int) 0 0 0 false) Q) :
    ∀ (d i : Nat), i + d = A.length → EvP (fun k => impl_Normalized.l0 k A S C (recs (A.take i)) A (A.length : Int) (i : Int) 0 0 false) Q
  | 0, i, hd => by
    refine EvP.step (fun k => ?_) hQ
    rw [impl_Normalized.l0, if_neg (by omega), List.take_of_length_le (by omega)]
  | d + 1, i, hd => by
    refine EvP.step (fun k => ?_) (norm_l0 A C S hA4 hA Q hQ d (i + 1) (by omega))
    obtain ⟨t1, t2, t3, t4⟩ := ax_tests (hA _ (mem_at (A := A) (i := i) (by omega)))
    have er : rd_T92 A (i : Int) = at92 A i := rfl
    rw [impl_Normalized.l0, er, if_pos (by omega), if_pos (by omega), if_pos (by omega), if_pos t1, if_pos t2, if_pos t3, must_ok _ t4, Option.bind_some, if_pos (by simp [recs]; omega), wsucc i (by omega)]
    have e : recs (A.take i) ++ [⟨0, (at92 A i).f0, (at92 A i).f1, (at92 A i).f2, 0, 0⟩] = recs (A.take (i + 1)) := by
      have e1 : at92 A i = A[i]'(by omega) := by
        unfold at92
        rw [List.getD_eq_getElem?_getD, List.getElem?_eq_getElem (by omega)]
        rfl
      rw [← take_one A i (by omega), ← e1]
      simp [recs]
    rw [e]
theorem norm_is (A : List S92) (C : List Nat) (S : List (List S48)) (hlen : C.length = A.length) (hA4 : A.length ≤ 4) (hA : ∀ s ∈ A, AxOk s) (hC : ∀ c ∈ C, CoOk c) (hS : S = [] ∨ S.length = A.length ∧ ∀ s ∈ S, Seg s) :
    EvP (fun k => impl_Normalized.f k A S C) fun r => r.2 = true ∧ r.1.length = A.length ∧ ∀ j, j < A.length → Res A C S j (rd r.1 (j : Int)) := by
  have hQ : EvP (fun k => (font_ZzNormalize.f k (recs A) (segs S) C).bind fun t => (tables_Coord.f k t).bind fun t2 => some (t2, true)) fun r => r.2 = true ∧ r.1.length = A.length ∧ ∀ j, j < A.length → Res A C S j (rd r.1 (j : Int)) := by
    refine EvP.bindP (zz_is A C S hlen hA4 hA hC hS) fun N hN => ?_
    have hc := coord_is N (by omega) (fun j hj => by have := hN.2 j (by omega); exact ⟨this.1, this.2.1⟩)
    exact ⟨(N, true), Ev.bind hc (Ev.now _), rfl, hN.1, hN.2⟩
  refine EvP.congr (fun k => ?_) (norm_l0 A C S hA4 hA _ (EvP.congr (fun k => rfl) (norm_l1 A C S hlen hA4 hC hS _ hQ S.length 0 (by omega))) A.length 0 (by omega))
  rfl

/-! ### the law -/
theorem ext_fin {a b : Rat} (h : a ≤ b) : a ≤ b := h
theorem law_j3 (l1 : List (List S164)) (A : List S92) (C : List Nat) (S : List (List S48)) (N : List Int) (i : Nat) (y : Int) (hy : -16385 ≤ y ∧ y ≤ 16384) {p q : Nat} {P Q : Rat} (hp : Fin .f64 p P) (hq : Fin .f64 q Q) (p1 : -20000 ≤ P) (p2 : P ≤ (y : Rat) + 1009 / 1000) (q1 : (y : Rat) ≤ Q + 1009 / 1000) (q2 : Q ≤ 20000) (hi : i < 1000) (Z : Bool → Prop)
    (hZ : EvP (fun k => laws_FnNormalized.l0 k l1 A S C N (N.length : Int) ((i + 1 : Nat) : Int)) Z) : EvP (fun k => laws_FnNormalized.j3 k l1 A S C y p q N (N.length : Int) (i : Int)) Z := by
  obtain ⟨c, hc, c1, c2⟩ := w101
  have hy1 : (-16385 : Rat) ≤ (y : Rat) := icast hy.1
  have hy2 : (y : Rat) ≤ 16384 := icast hy.2
  have fy := fin64 y (by omega)
  obtain ⟨o1, z1, g1, e1⟩ := sub64 hp hc (by grind) (by grind)
  obtain ⟨o2, z2, g2, e2⟩ := add64 hq hc (by grind) (by grind)
  unfold Cl at e1 e2
  have t1 : ¬ (FloatKind.f64.format.order (floatOfInt .f64 y) (fv .sub .f64 p 4607227454796291113) == some .lt) = true := by
    rw [(order_fin fy g1).1]
    simp only [decide_eq_true_eq]
    grind
  have t2 : (FloatKind.f64.format.order (floatOfInt .f64 y) (fv .add .f64 q 4607227454796291113) == some .gt) = false := by
    rw [(order_fin fy g2).2.2.1]
    simp only [decide_eq_false_iff_not]
    grind
  refine EvP.step (f := fun k => laws_FnNormalized.j4 k l1 A S C N (N.length : Int) (i : Int) false) (fun k => ?_) (EvP.step (fun k => ?_) hZ)
  · rw [laws_FnNormalized.j3, if_pos o1, if_neg t1, if_pos o2, t2]
  · rw [laws_FnNormalized.j4, if_neg (by simp), wsucc i (by omega)]
theorem law_l0 (l1 : List (List S164)) (A : List S92) (C : List Nat) (S : List (List S48)) (N : List Int) (hlen : C.length = A.length) (hA4 : A.length ≤ 4) (hN : N.length = A.length) (hr : ∀ j, j < A.length → Res A C S j (rd N (j : Int)))
    (h0 : (l1.length : Int) = 0 → S = []) (h1 : ¬ (l1.length : Int) = 0 → S.length = A.length ∧ ∀ s ∈ S, Seg s) :
    ∀ (d i : Nat), i + d = A.length → EvP (fun k => laws_FnNormalized.l0 k l1 A S C N (N.length : Int) (i : Int)) fun b => b = true
  | 0, i, hd => by
    refine EvP.step (f := fun _ => some true) (fun k => ?_) (EvP.now _ rfl)
    rw [laws_FnNormalized.l0, if_neg (by omega)]
  | d + 1, i, hd => by
    have next := law_l0 l1 A C S N hlen hA4 hN hr h0 h1 d (i + 1) (by omega)
    obtain ⟨y1, y2, v, ⟨v1, v2, W, hW, b, R, hb, fb, hR⟩, hcase⟩ := hr i (by omega)
    obtain ⟨c, hc, c1, c2⟩ := w101
    unfold Cl at hW hR
    have hv1 : (-16384 : Rat) ≤ (v : Rat) := icast v1
    have hv2 : (v : Rat) ≤ 16384 := icast v2
    obtain ⟨o1, z1, g1, e1⟩ := sub64 fb hc (by grind) (by grind)
    obtain ⟨o2, z2, g2, e2⟩ := add64 fb hc (by grind) (by grind)
    unfold Cl at e1 e2
    obtain ⟨m1, L, fL, l2, l3, l4⟩ := max_fin wm16384 g1
    obtain ⟨m2, M, fM, l5, l6, l7⟩ := min_fin w16384 g2
    have hLv : L ≤ (v : Rat) := by grind
    have hMv : (v : Rat) ≤ M := by grind
    have ea : rd_T92 A (i : Int) = at92 A i := rfl
    have ec : rdOf (0 : Nat) C (i : Int) = atN C i := rfl
    have es : rd_L8 S (i : Int) = atS S i := rfl
    have hs : ∀ k, laws_FnNormalized.l0 (k + 1) l1 A S C N (N.length : Int) (i : Int) = if (l1.length : Int) = 0 then laws_FnNormalized.j3 k l1 A S C (rd N (i : Int)) (fmx .f64 13893604850437980160 (fv .sub .f64 b 4607227454796291113)) (fmn .f64 4670232813583204352 (fv .add .f64 b 4607227454796291113)) N (N.length : Int) (i : Int) else if (i : Int) < (S.length : Int) then ((spec_MapRef.f k (atS S i) (fmx .f64 13893604850437980160 (fv .sub .f64 b 4607227454796291113))).bind fun t321 => ((spec_MapRef.f k (atS S i) (fmn .f64 4670232813583204352 (fv .add .f64 b 4607227454796291113))).bind fun t323 => (laws_FnNormalized.j3 k l1 A S C (rd N (i : Int)) t321 t323 N (N.length : Int) (i : Int)))) else none := fun k => by
      rw [laws_FnNormalized.l0, if_pos (by omega), if_pos (by omega), if_pos (by omega), if_pos (by omega), if_pos (by omega), ea, ec, es, hb, Option.bind_some, if_pos o1, if_pos m1, if_pos o2, if_pos m2]
    refine EvP.step hs ?_
    by_cases hl : (l1.length : Int) = 0
    · refine EvP.congr (fun k => if_pos hl) ?_
      have hS := h0 hl
      have hyv : rd N (i : Int) = v := by
        rcases hcase with ⟨_, h⟩ | ⟨h, _⟩
        · exact h
        · rw [hS] at h; simp at h
      exact law_j3 l1 A C S N i (rd N (i : Int)) ⟨y1, y2⟩ fL fM (by grind) (by rw [hyv]; grind) (by rw [hyv]; grind) (by grind) (by omega) _ next
    · refine EvP.congr (fun k => if_neg hl) ?_
      obtain ⟨s1, s2⟩ := h1 hl
      refine EvP.congr (fun k => if_pos (by omega)) ?_
      have hseg := s2 _ (mem_atS (S := S) (i := i) (by omega))
      have hm : MapOk (atS S i) v (rd N (i : Int)) := by
        rcases hcase with ⟨h, _⟩ | ⟨_, h⟩
        · rw [h] at s1; simp at s1; omega
        · exact h
      obtain ⟨z, hz, k1, k2⟩ := hm
      refine EvP.bindP (mapref_is (atS S i) hseg fL (by grind) (by grind)) fun t1 ht1 => ?_
      refine EvP.bindP (mapref_is (atS S i) hseg fM (by grind) (by grind)) fun t2 ht2 => ?_
      obtain ⟨P, p, fP, cP, pP⟩ := ht1
      obtain ⟨Q, q, fQ, cQ, pQ⟩ := ht2
      have q1 := PM_mono hseg pP hz hLv
      have q2 := PM_mono hseg hz pQ hMv
      have bd : ∀ x w, PM (atS S i) x w → -16384 ≤ w ∧ w ≤ 16384 := by
        rintro x w ⟨j, j1, j2, j3, rfl⟩
        have u := hseg.up j j1
        have b1 := hseg.bd j (by omega)
        have b2 := hseg.bd (j + 1) j1
        have a1 := gab_mono u.1 u.2 j2
        rw [gab_lo _ _ u.1] at a1
        have a2 := gab_mono u.1 u.2 j3
        rw [gab_hi _ _ u.1] at a2
        have a3 : (-16384 : Rat) ≤ ((at48 (atS S i) j).f1 : Rat) := icast b1.2.2.1
        have a4 : ((at48 (atS S i) (j + 1)).f1 : Rat) ≤ 16384 := icast b2.2.2.2
        constructor <;> grind
      have r1 := bd _ _ pP
      have r2 := bd _ _ pQ
      unfold Cl at cP cQ
      exact law_j3 l1 A C S N i (rd N (i : Int)) ⟨y1, y2⟩ fP fQ (by grind) (by grind) (by grind) (by grind) (by omega) _ next
theorem fits_l0 (l : List (List S164)) (hb : l.length < 10000000000) : ∀ (d i : Nat), i + d = l.length → EvP (fun k => laws_zzFits40.l0 k l (l.length : Int) (i : Int)) fun _ => True
  | 0, i, hd => by
    refine EvP.step (f := fun _ => some true) (fun k => ?_) (EvP.now _ trivial)
    rw [laws_zzFits40.l0, if_neg (by omega)]
  | d + 1, i, hd => by
    by_cases h : ((rd_L2 l (i : Int)).length : Int) > 2147483647
    · refine EvP.step (f := fun _ => some false) (fun k => ?_) (EvP.now _ trivial)
      rw [laws_zzFits40.l0, if_pos (by omega), if_pos (by omega), if_pos (by omega), if_pos h]
    · refine EvP.step (fun k => ?_) (fits_l0 l hb d (i + 1) (by omega))
      rw [laws_zzFits40.l0, if_pos (by omega), if_pos (by omega), if_pos (by omega), if_neg h, wsucc i (by omega)]
theorem fits_is (l : List (List S164)) : EvP (fun k => laws_zzFits40.f k l) fun _ => True := by
  unfold laws_zzFits40.f
  by_cases h : (l.length : Int) > 2147483647
  · exact EvP.congr (fun k => if_pos h) (EvP.now false trivial)
  · exact EvP.congr (fun k => if_neg h) (fits_l0 l (by omega) l.length 0 (by omega))
theorem law_j0 (l0 : List S161) (l1 : List (List S164)) (l2 : List Int) (g0 : ∀ y ∈ l0, good161 y) (g2 : ∀ x ∈ l2, (Lit.int .i16 x).wf = true) (t : Bool) : EvP (fun k => laws_FnNormalized.j0 k l0 l1 l2 t) fun b => b = true := by
  cases t with
  | true =>
    refine EvP.step (f := fun _ => some true) (fun k => ?_) (EvP.now _ rfl)
    rw [laws_FnNormalized.j0, if_pos rfl]
  | false =>
    refine EvP.step (fun k => by rw [laws_FnNormalized.j0, if_neg (by simp)]) (EvP.bindP (axes_is l0 l1 l2 g0 g2) fun r hr => ?_)
    obtain ⟨A, S, C⟩ := r
    obtain ⟨⟨hlen, hA4⟩, hA, hC, hS0, hS1⟩ := hr
    simp only at hlen hA4 hA hC hS0 hS1
    show EvP (fun k => if (A.length : Int) = 0 then some true else (impl_Normalized.f k A S C).bind fun bt312 => (if bt312.2 = true then (laws_FnNormalized.j1 k l1 A S C bt312.1 ((bt312.1.length : Int) != (A.length : Int))) else (laws_FnNormalized.j1 k l1 A S C bt312.1 true))) fun b => b = true
    by_cases h0 : (A.length : Int) = 0
    · exact EvP.congr (fun k => if_pos h0) (EvP.now _ rfl)
    · refine EvP.congr (fun k => if_neg h0) ?_
      have hS : S = [] ∨ S.length = A.length ∧ ∀ s ∈ S, Seg s := by
        by_cases hl : (l1.length : Int) = 0
        · exact .inl (hS0 hl)
        · exact .inr (hS1 hl)
      refine EvP.bindP (norm_is A C S hlen hA4 hA hC hS) fun N hN => ?_
      obtain ⟨n1, n2, n3⟩ := hN
      refine EvP.congr (fun k => if_pos n1) ?_
      have hb : ((N.1.length : Int) != (A.length : Int)) = false := bne_eq_false_iff_eq.2 (by omega)
      rw [hb]
      refine EvP.step (fun k => ?_) (law_l0 l1 A C S N.1 hlen hA4 n2 n3 hS0 hS1 A.length 0 (by omega))
      rw [laws_FnNormalized.j1, if_neg (by simp)]
      rfl
theorem FnNormalized : laws_FnNormalized.Pure := by
  intro l0 l1 l2 _ g0 _ _ _ _ g2
  have main : EvP (fun k => laws_FnNormalized.f k l0 l1 l2) fun b => b = true := by
    unfold laws_FnNormalized.f
    by_cases h : (l0.length : Int) > 2147483647
    · exact EvP.congr (fun k => if_pos h) (law_j0 l0 l1 l2 g0 g2 true)
    · refine EvP.congr (fun k => if_neg h) (EvP.bindP (fits_is l1) fun t _ => ?_)
      cases t with
      | true => exact EvP.congr (fun k => if_pos rfl) (law_j0 l0 l1 l2 g0 g2 _)
      | false => exact EvP.congr (fun k => if_neg (by simp)) (law_j0 l0 l1 l2 g0 g2 true)
  obtain ⟨b, hb, rfl⟩ := main
  exact hb.rounds

end Go.Proofs.Ytlbmfnjhpojghaa.Pure
