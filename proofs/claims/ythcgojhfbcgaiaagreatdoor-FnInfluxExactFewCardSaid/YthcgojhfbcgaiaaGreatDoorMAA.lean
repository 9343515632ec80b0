/- IEEE doubles: what the nearest word to a number is, in terms of the ladder of representable magnitudes. Plain lemmas; no condition. -/
import Ieee.Arith

namespace Go.Proofs.YthcgojhfbcgaiaaGreatDoor
open Ieee

/-- The magnitude of a rung, in units of the least subnormal. -/
def rungVal (r : Nat) : Nat := if r < 2 ^ 52 then r else (2 ^ 52 + r % 2 ^ 52) * 2 ^ (r / 2 ^ 52 - 1)

theorem cut_exact (s : Bool) (n : Nat) : Toward.even.cut s n 0 = n := by
  simp [Toward.cut, Nat.mod_one]

theorem cut_big (s : Bool) (n d : Nat) (h : n.log2 + 2 < d) : Toward.even.cut s n d = 0 := by
  have h1 : n < 2 ^ (n.log2 + 1) := Nat.lt_log2_self
  have h2 : 2 ^ (n.log2 + 2) = 2 * 2 ^ (n.log2 + 1) := by rw [Nat.pow_succ, Nat.mul_comm]
  have hm : min d (n.log2 + 2) = n.log2 + 2 := by omega
  simp only [Toward.cut, hm, Nat.one_shiftLeft]
  have e1 : n / 2 ^ (n.log2 + 2) = 0 := Nat.div_eq_of_lt (by omega)
  have e2 : n % 2 ^ (n.log2 + 2) = n := Nat.mod_eq_of_lt (by omega)
  rw [e1, e2]
  have : ¬ 2 ^ (n.log2 + 2) < 2 * n := by omega
  simp [this]

theorem cut_small (s : Bool) (n d : Nat) (h : d ≤ n.log2 + 2) :
    Toward.even.cut s n d = n / 2 ^ d + (if 2 ^ d < 2 * (n % 2 ^ d) ∨ (2 ^ d = 2 * (n % 2 ^ d) ∧ n / 2 ^ d % 2 = 1) then 1 else 0) := by
  have hm : min d (n.log2 + 2) = d := by omega
  simp only [Toward.cut, hm, Nat.one_shiftLeft]
  generalize 2 ^ d = g
  generalize 2 * (n % g) = u
  generalize n / g % 2 = v
  by_cases h1 : g < u
  · rw [if_pos (Or.inl h1), decide_eq_true h1]; rfl
  · rw [decide_eq_false h1]
    by_cases h2 : g = u
    · subst h2
      by_cases h3 : v = 1
      · subst h3; simp
      · have : (v == 1) = false := by simpa using h3
        simp [this, h3]
    · have : (g == u) = false := by simpa using h2
      simp [this, h1, h2]

theorem cut_le (s : Bool) (n d t : Nat) (h : n ≤ t * 2 ^ d) : Toward.even.cut s n d ≤ t := by
  by_cases hd : d ≤ n.log2 + 2
  · rw [cut_small s n d hd]
    have hp : 0 < 2 ^ d := Nat.two_pow_pos d
    have e := Nat.div_add_mod n (2 ^ d)
    have hl : n / 2 ^ d ≤ t := by
      have := Nat.div_le_div_right (c := 2 ^ d) h
      rwa [Nat.mul_div_cancel _ hp] at this
    by_cases ht : n / 2 ^ d = t
    · have : n % 2 ^ d = 0 := by rw [ht, Nat.mul_comm] at e; omega
      rw [this]
      simp; omega
    · split <;> omega
  · rw [cut_big s n d (by omega)]; omega

theorem cut_ge (s : Bool) (n d t : Nat) (h : t * 2 ^ d ≤ n) : t ≤ Toward.even.cut s n d := by
  by_cases hd : d ≤ n.log2 + 2
  · rw [cut_small s n d hd]
    have := Nat.div_le_div_right (c := 2 ^ d) h
    rw [Nat.mul_div_cancel _ (Nat.two_pow_pos d)] at this
    omega
  · rw [cut_big s n d (by omega)]
    have h1 : n < 2 ^ (n.log2 + 1) := Nat.lt_log2_self
    have h2 : 2 ^ (n.log2 + 1) ≤ 2 ^ d := Nat.pow_le_pow_right (by omega) (by omega)
    rcases Nat.eq_zero_or_pos t with h0 | h0
    · omega
    · have := Nat.mul_le_mul_right (2 ^ d) h0; omega

/-- The binade's index of 'mag * 2 ^ place' (0: subnormal, or the least normal ones). -/
def kOf (mag : Nat) (place : Int) : Nat := (max (place + mag.log2 - 52) (-1074) + 1074).toNat
def keptOf (s : Bool) (mag : Nat) (place : Int) : Nat :=
  Toward.even.cut s (mag <<< (place - (kOf mag place - 1074)).toNat) ((kOf mag place : Int) - 1074 - place).toNat
def rungOf (s : Bool) (mag : Nat) (place : Int) : Nat := kOf mag place * 2 ^ 52 + keptOf s mag place

theorem least_double : double.leastPlace = -1074 := by decide
theorem binade_double : double.binade = 2 ^ 52 := rfl

theorem nearest_eq (s : Bool) (mag : Nat) (place : Int) (h : mag ≠ 0) :
    double.nearest s mag place = double.word s (min (rungOf s mag place) double.infRung) := by
  have hk : (kOf mag place : Int) = max (place + mag.log2 - 52) (-1074) + 1074 := by unfold kOf; omega
  have e1 : max (place + (mag.log2 : Int) - (double.fractionBits : Nat)) double.leastPlace = (kOf mag place : Int) - 1074 := by
    rw [least_double, hk]; show max (place + (mag.log2 : Int) - (52 : Nat)) (-1074) = _; omega
  unfold Format.nearest
  rw [if_neg h]
  simp only [e1]
  simp only [least_double, binade_double]
  unfold rungOf keptOf
  rw [show ((kOf mag place : Int) - 1074 - -1074).toNat = kOf mag place by omega]

/-- The rung lies in its binade. -/
theorem kept_le (s : Bool) (mag : Nat) (place : Int) : keptOf s mag place ≤ 2 ^ 53 := by
  have h1 : mag < 2 ^ (mag.log2 + 1) := Nat.lt_log2_self
  have hk : (kOf mag place : Int) = max (place + mag.log2 - 52) (-1074) + 1074 := by unfold kOf; omega
  unfold keptOf
  apply cut_le
  rw [Nat.shiftLeft_eq]
  by_cases h : place ≤ kOf mag place - 1074
  · rw [show (place - ((kOf mag place : Int) - 1074)).toNat = 0 by omega, Nat.pow_zero, Nat.mul_one, ← Nat.pow_add]
    exact Nat.le_trans (Nat.le_of_lt h1) (Nat.pow_le_pow_right (by omega) (by omega))
  · rw [show ((kOf mag place : Int) - 1074 - place).toNat = 0 by omega, Nat.pow_zero, Nat.mul_one]
    refine Nat.le_trans (Nat.mul_le_mul_right _ (Nat.le_of_lt h1)) ?_
    rw [← Nat.pow_add]
    exact Nat.pow_le_pow_right (by omega) (by omega)

theorem kept_ge (s : Bool) (mag : Nat) (place : Int) (hm : mag ≠ 0) (hk0 : kOf mag place ≠ 0) : 2 ^ 52 ≤ keptOf s mag place := by
  have h1 : 2 ^ mag.log2 ≤ mag := Nat.log2_self_le hm
  have hk : (kOf mag place : Int) = max (place + mag.log2 - 52) (-1074) + 1074 := by unfold kOf; omega
  unfold keptOf
  apply cut_ge
  rw [Nat.shiftLeft_eq]
  by_cases h : place ≤ kOf mag place - 1074
  · rw [show (place - ((kOf mag place : Int) - 1074)).toNat = 0 by omega, Nat.pow_zero, Nat.mul_one, ← Nat.pow_add]
    exact Nat.le_trans (Nat.pow_le_pow_right (by omega) (by omega)) h1
  · rw [show ((kOf mag place : Int) - 1074 - place).toNat = 0 by omega, Nat.pow_zero, Nat.mul_one]
    refine Nat.le_trans ?_ (Nat.mul_le_mul_right _ h1)
    rw [← Nat.pow_add]
    exact Nat.pow_le_pow_right (by omega) (by omega)

theorem rungVal_at (k t : Nat) (h : t < 2 ^ 53) (hk : k = 0 ∨ 2 ^ 52 ≤ t) : rungVal (k * 2 ^ 52 + t) = t * 2 ^ k := by
  unfold rungVal
  rcases hk with rfl | ht
  · by_cases h2 : t < 2 ^ 52
    · rw [if_pos (by omega)]; simp
    · rw [if_neg (by omega), show (0 * 2 ^ 52 + t) / 2 ^ 52 - 1 = 0 by omega, show (0 * 2 ^ 52 + t) % 2 ^ 52 = t - 2 ^ 52 by omega]
      simp only [Nat.pow_zero]; omega
  · rw [if_neg (by omega), show (k * 2 ^ 52 + t) / 2 ^ 52 - 1 = k by omega, show (k * 2 ^ 52 + t) % 2 ^ 52 = t - 2 ^ 52 by omega]
    rw [show 2 ^ 52 + (t - 2 ^ 52) = t by omega]

theorem rungVal_lt (k r : Nat) (h : r < (k + 1) * 2 ^ 52) : rungVal r < 2 ^ 52 * 2 ^ k := by
  unfold rungVal
  by_cases h0 : r < 2 ^ 52
  · rw [if_pos h0]
    have := Nat.two_pow_pos k
    exact Nat.lt_of_lt_of_le h0 (Nat.le_mul_of_pos_right _ this)
  · rw [if_neg h0]
    have h1 : r / 2 ^ 52 - 1 + 1 ≤ k := by omega
    have h2 : 2 ^ (r / 2 ^ 52 - 1) * 2 ≤ 2 ^ k := by rw [← Nat.pow_succ]; exact Nat.pow_le_pow_right (by omega) h1
    have h3 : 2 ^ 52 + r % 2 ^ 52 < 2 ^ 52 * 2 := by omega
    have hx0 : 0 < 2 ^ (r / 2 ^ 52 - 1) := Nat.two_pow_pos _
    generalize (2 : Nat) ^ 52 = u at *
    generalize 2 ^ (r / u - 1) = x at *
    have hx : 0 < x := by
      rcases Nat.eq_zero_or_pos x with h | h
      · subst h; exact absurd hx0 (Nat.lt_irrefl 0)
      · exact h
    have h4 := Nat.mul_lt_mul_of_pos_right h3 hx
    have h5 := Nat.mul_le_mul_left u h2
    have h6 : u * (x * 2) = u * 2 * x := by rw [Nat.mul_assoc, Nat.mul_comm 2]
    omega

theorem rungVal_ge (k r : Nat) (h : (k + 1) * 2 ^ 52 ≤ r) : 2 ^ 52 * 2 ^ k ≤ rungVal r := by
  unfold rungVal
  rw [if_neg (by omega)]
  refine Nat.le_trans (Nat.mul_le_mul_right _ (show 2 ^ 52 ≤ 2 ^ 52 + r % 2 ^ 52 by omega)) (Nat.mul_le_mul_left _ ?_)
  exact Nat.pow_le_pow_right (by omega) (by omega)

/-- Scaling: 'mag * 2 ^ place' against 'v' units, as whole numbers: A - B = place + 1074. -/
theorem mag_lt (mag : Nat) (place : Int) (A B : Nat) (hAB : (A : Int) - B = place + 1074) : mag * 2 ^ A < 2 ^ 53 * 2 ^ (kOf mag place) * 2 ^ B := by
  have h1 : mag < 2 ^ (mag.log2 + 1) := Nat.lt_log2_self
  have hk : (kOf mag place : Int) = max (place + mag.log2 - 52) (-1074) + 1074 := by unfold kOf; omega
  refine Nat.lt_of_lt_of_le (Nat.mul_lt_mul_of_pos_right h1 (Nat.two_pow_pos A)) ?_
  rw [← Nat.pow_add, ← Nat.pow_add, ← Nat.pow_add]
  exact Nat.pow_le_pow_right (by omega) (by omega)

theorem mag_ge (mag : Nat) (place : Int) (A B : Nat) (hAB : (A : Int) - B = place + 1074) (hm : mag ≠ 0) (hk0 : kOf mag place ≠ 0) :
    2 ^ 52 * 2 ^ (kOf mag place) * 2 ^ B ≤ mag * 2 ^ A := by
  have h1 : 2 ^ mag.log2 ≤ mag := Nat.log2_self_le hm
  have hk : (kOf mag place : Int) = max (place + mag.log2 - 52) (-1074) + 1074 := by unfold kOf; omega
  refine Nat.le_trans ?_ (Nat.mul_le_mul_right _ h1)
  rw [← Nat.pow_add, ← Nat.pow_add, ← Nat.pow_add]
  exact Nat.pow_le_pow_right (by omega) (by omega)

theorem kept_of_le (s : Bool) (mag : Nat) (place : Int) (A B t : Nat) (hAB : (A : Int) - B = place + 1074)
    (h : mag * 2 ^ A ≤ t * 2 ^ (kOf mag place) * 2 ^ B) : keptOf s mag place ≤ t := by
  unfold keptOf
  apply cut_le
  rw [Nat.shiftLeft_eq]
  by_cases hp : place ≤ kOf mag place - 1074
  · rw [show (place - ((kOf mag place : Int) - 1074)).toNat = 0 by omega, Nat.pow_zero, Nat.mul_one]
    obtain ⟨d, hd⟩ : ∃ d : Nat, ((kOf mag place : Int) - 1074 - place).toNat = d := ⟨_, rfl⟩
    rw [hd]
    have e : kOf mag place + B = d + A := by omega
    rw [Nat.mul_assoc, ← Nat.pow_add, e, Nat.pow_add, ← Nat.mul_assoc] at h
    exact Nat.le_of_mul_le_mul_right h (Nat.two_pow_pos A)
  · rw [show ((kOf mag place : Int) - 1074 - place).toNat = 0 by omega, Nat.pow_zero, Nat.mul_one]
    obtain ⟨d, hd⟩ : ∃ d : Nat, (place - ((kOf mag place : Int) - 1074)).toNat = d := ⟨_, rfl⟩
    rw [hd]
    have e : A = d + (kOf mag place + B) := by omega
    rw [Nat.mul_assoc, ← Nat.pow_add, e, Nat.pow_add (m := d), ← Nat.mul_assoc] at h
    exact Nat.le_of_mul_le_mul_right h (Nat.two_pow_pos _)

theorem kept_of_ge (s : Bool) (mag : Nat) (place : Int) (A B t : Nat) (hAB : (A : Int) - B = place + 1074)
    (h : t * 2 ^ (kOf mag place) * 2 ^ B ≤ mag * 2 ^ A) : t ≤ keptOf s mag place := by
  unfold keptOf
  apply cut_ge
  rw [Nat.shiftLeft_eq]
  by_cases hp : place ≤ kOf mag place - 1074
  · rw [show (place - ((kOf mag place : Int) - 1074)).toNat = 0 by omega, Nat.pow_zero, Nat.mul_one]
    obtain ⟨d, hd⟩ : ∃ d : Nat, ((kOf mag place : Int) - 1074 - place).toNat = d := ⟨_, rfl⟩
    rw [hd]
    have e : kOf mag place + B = d + A := by omega
    rw [Nat.mul_assoc, ← Nat.pow_add, e, Nat.pow_add, ← Nat.mul_assoc] at h
    exact Nat.le_of_mul_le_mul_right h (Nat.two_pow_pos A)
  · rw [show ((kOf mag place : Int) - 1074 - place).toNat = 0 by omega, Nat.pow_zero, Nat.mul_one]
    obtain ⟨d, hd⟩ : ∃ d : Nat, (place - ((kOf mag place : Int) - 1074)).toNat = d := ⟨_, rfl⟩
    rw [hd]
    have e : A = d + (kOf mag place + B) := by omega
    rw [Nat.mul_assoc, ← Nat.pow_add, e, Nat.pow_add (m := d), ← Nat.mul_assoc] at h
    exact Nat.le_of_mul_le_mul_right h (Nat.two_pow_pos _)

/-- ROUNDING NEVER PASSES A REPRESENTABLE MAGNITUDE, from below .. -/
theorem rung_up (s : Bool) (mag : Nat) (place : Int) (hm : mag ≠ 0) (A B r : Nat) (hAB : (A : Int) - B = place + 1074)
    (h : mag * 2 ^ A ≤ rungVal r * 2 ^ B) : rungOf s mag place ≤ r := by
  have hl := kept_le s mag place
  unfold rungOf
  by_cases h1 : kOf mag place * 2 ^ 52 + 2 ^ 53 ≤ r
  · omega
  · by_cases h2 : r < kOf mag place * 2 ^ 52 + 2 ^ 52 ∧ kOf mag place ≠ 0
    · exfalso
      have a := mag_ge mag place A B hAB hm h2.2
      have b := rungVal_lt (kOf mag place) r (by omega)
      have c := Nat.mul_lt_mul_of_pos_right b (Nat.two_pow_pos B)
      omega
    · obtain ⟨t, rfl⟩ : ∃ t, r = kOf mag place * 2 ^ 52 + t := ⟨r - kOf mag place * 2 ^ 52, by omega⟩
      rw [rungVal_at _ t (by omega) (by omega)] at h
      have := kept_of_le s mag place A B t hAB h
      omega

/-- .. and from above. -/
theorem rung_down (s : Bool) (mag : Nat) (place : Int) (hm : mag ≠ 0) (A B r : Nat) (hAB : (A : Int) - B = place + 1074)
    (h : rungVal r * 2 ^ B ≤ mag * 2 ^ A) : r ≤ rungOf s mag place := by
  unfold rungOf
  by_cases h0 : r ≤ kOf mag place * 2 ^ 52
  · exact Nat.le_trans h0 (Nat.le_add_right _ _)
  · by_cases h1 : kOf mag place * 2 ^ 52 + 2 ^ 53 ≤ r
    · exfalso
      have a := mag_lt mag place A B hAB
      have b := rungVal_ge (kOf mag place + 1) r (by omega)
      have c := Nat.mul_le_mul_right (2 ^ B) b
      rw [Nat.pow_succ (n := 2) (m := kOf mag place), Nat.mul_comm (2 ^ kOf mag place) 2, ← Nat.mul_assoc] at c
      exact absurd h (Nat.not_le.2 (Nat.lt_of_lt_of_le a c))
    · by_cases h2 : r < kOf mag place * 2 ^ 52 + 2 ^ 52 ∧ kOf mag place ≠ 0
      · have := kept_ge s mag place hm h2.2
        omega
      · obtain ⟨t, rfl⟩ : ∃ t, r = kOf mag place * 2 ^ 52 + t := ⟨r - kOf mag place * 2 ^ 52, by omega⟩
        rw [rungVal_at _ t (by omega) (by omega)] at h
        have := kept_of_ge s mag place A B t hAB h
        omega

/-- A representable number is met. -/
theorem rung_exact (s : Bool) (mag : Nat) (place : Int) (hm : mag ≠ 0) (A B r : Nat) (hAB : (A : Int) - B = place + 1074)
    (h : mag * 2 ^ A = rungVal r * 2 ^ B) : rungOf s mag place = r :=
  Nat.le_antisymm (rung_up s mag place hm A B r hAB (Nat.le_of_eq h)) (rung_down s mag place hm A B r hAB (Nat.le_of_eq h.symm))

end Go.Proofs.YthcgojhfbcgaiaaGreatDoor
