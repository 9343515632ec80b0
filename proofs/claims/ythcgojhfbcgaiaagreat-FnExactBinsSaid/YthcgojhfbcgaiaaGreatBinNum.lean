/- The means of a histogram's bins as floats. Plain lemmas. -/
import Derived.Test.YthcgojhfbcgaiaaGreatFloatS
import Derived.Test.YthcgojhfbcgaiaaGreatFloatX
import Derived.Test.YthcgojhfbcgaiaaGreatTgtNum
import Derived.Test.YthcgojhfbcgaiaaGreatBins
namespace Go.Proofs.YthcgojhfbcgaiaaGreat
open Ieee

theorem FI_FP (n : Nat) (h : n < 2 ^ 49) : floatOfInt .f64 (n : Int) = FP 0 n := by
  rw [FI_FX n h, show FX ((16 * n : Nat) : Int) = FP 4 (16 * n) from FX_FP (16 * n)]
  have a := (FP_le (p := 4) (q := 0) (j := 16 * n) (l := n) (by omega) (by omega) (by omega) (by omega)).2 (by omega)
  have b := (FP_le (p := 0) (q := 4) (j := n) (l := 16 * n) (by omega) (by omega) (by omega) (by omega)).2 (by omega)
  omega

/-- A mean, in bits. -/
def mb (c s : Nat) : Nat := (double.div (floatOfInt .f64 (s : Int)) (floatOfInt .f64 (c : Int))).getD 0

theorem mb_spec {c s : Nat} (hc1 : 1 ≤ c) (hc : c < 2 ^ 20) (hs : s < 2 ^ 20) : double.div (floatOfInt .f64 (s : Int)) (floatOfInt .f64 (c : Int)) = some (mb c s) ∧ mb c s ≤ FP 0 (2 ^ 20) ∧
    (∀ ρ, rungVal (FP 0 s) * 2 ^ E74 ≤ rungVal ρ * rungVal (FP 0 c) → mb c s ≤ ρ) ∧ (∀ ρ, rungVal ρ * rungVal (FP 0 c) ≤ rungVal (FP 0 s) * 2 ^ E74 → ρ ≤ mb c s) := by
  unfold mb
  rw [FI_FP s (by omega), FI_FP c (by omega)]
  have hsl := FP_lt (p := 0) (j := s) (by omega) (by omega)
  have hcl := FP_lt (p := 0) (j := c) (by omega) (by omega)
  have hml := FP_lt (p := 0) (j := 2 ^ 20) (by omega) (by omega)
  obtain ⟨R, h1, h2, h3⟩ := div_spec hsl hcl (FP_ne (by omega) (by omega) (by omega))
  have hR : R ≤ FP 0 (2 ^ 20) := h2 _ (div_up (a := 0) (i := s) (b := 0) (j := c) (q := 0) (l := 2 ^ 20) (Nat.le_refl _) (by omega) (by omega) (by omega) (by omega) (by omega) (by omega) (by
    simp only [Nat.pow_zero, Nat.mul_one]
    have := Nat.mul_le_mul (Nat.le_of_lt hs) hc1; omega))
  rw [h1, show min R (2047 * 2 ^ 52) = R by omega]
  exact ⟨rfl, hR, h2, h3⟩

/-- A value against a mean. -/
theorem mb_ge {c s f : Nat} (hc1 : 1 ≤ c) (hc : c < 2 ^ 10) (hs : s < 2 ^ 20) (hf : f < 2 ^ 10) : FP 0 f ≤ mb c s ↔ f * c ≤ s := by
  obtain ⟨_, _, h2, h3⟩ := mb_spec hc1 (by omega) hs
  constructor
  · intro h
    rcases Nat.lt_or_ge s (f * c) with h' | h'
    · exfalso
      -- the mean is at most f less a thousandth
      have hf0 : 0 < f := by
        rcases Nat.eq_zero_or_pos f with h0 | h0
        · rw [h0, Nat.zero_mul] at h'; omega
        · exact h0
      have h10 : 2 ^ 10 * f ≤ 2 ^ 20 := by omega
      have a := h2 (FP 10 (2 ^ 10 * f - 1)) (div_up (a := 0) (i := s) (b := 0) (j := c) (q := 10) (l := 2 ^ 10 * f - 1) (Nat.le_refl _) (by omega) (by omega) (by omega) (by omega) (by omega) (by omega) (by
        rw [Nat.pow_zero, Nat.mul_one, Nat.zero_add, Nat.sub_mul, Nat.one_mul, Nat.mul_assoc]
        omega))
      have b := (FP_le (p := 0) (q := 10) (j := f) (l := 2 ^ 10 * f - 1) (by omega) (by omega) (by omega) (by omega)).1 (Nat.le_trans h a)
      omega
    · exact h'
  · intro h
    refine h3 _ (div_dn (a := 0) (i := s) (b := 0) (j := c) (q := 0) (l := f) (Nat.le_refl _) (by omega) (by omega) (by omega) (by omega) (by omega) (by omega) ?_)
    simpa using h

/-- Means go up with the fractions. -/
theorem mb_mono {c s d t : Nat} (hc1 : 1 ≤ c) (hc : c < 2 ^ 8) (hs : s < 2 ^ 20) (hd1 : 1 ≤ d) (hd : d < 2 ^ 8) (ht : t < 2 ^ 20) (h : s * d < t * c) : mb c s ≤ mb d t := by
  obtain ⟨_, _, h2, _⟩ := mb_spec hc1 (by omega) hs
  obtain ⟨_, _, _, g3⟩ := mb_spec hd1 (by omega) ht
  obtain ⟨j, hj⟩ : ∃ j, j = (2 ^ 16 * s + (c - 1)) / c := ⟨_, rfl⟩
  have d1 := Nat.div_add_mod (2 ^ 16 * s + (c - 1)) c
  have d2 := Nat.mod_lt (2 ^ 16 * s + (c - 1)) (show 0 < c by omega)
  rw [← hj, Nat.mul_comm c j] at d1
  have jb : j < 2 ^ 53 := by rw [hj]; exact Nat.lt_of_le_of_lt (Nat.div_le_self _ _) (by omega)
  refine Nat.le_trans (h2 (FP 16 j) (div_up (a := 0) (i := s) (b := 0) (j := c) (q := 16) (l := j) (Nat.le_refl _) (by omega) (by omega) (by omega) (by omega) (by omega) (by omega) ?_)) (g3 (FP 16 j) (div_dn (a := 0) (i := t) (b := 0) (j := d) (q := 16) (l := j) (Nat.le_refl _) (by omega) (by omega) (by omega) (by omega) (by omega) (by omega) ?_))
  · rw [Nat.pow_zero, Nat.mul_one, Nat.zero_add]; omega
  · rw [Nat.pow_zero, Nat.mul_one, Nat.zero_add]
    refine le_of_mul_pos (show 0 < c by omega) ?_
    have e1 : j * d * c = j * c * d := by ac_rfl
    have e2 : j * c ≤ 2 ^ 16 * s + (c - 1) := by omega
    have e3 := Nat.mul_le_mul_right d e2
    have e4 : (2 ^ 16 * s + (c - 1)) * d = 2 ^ 16 * (s * d) + (c - 1) * d := by rw [Nat.add_mul, Nat.mul_assoc]
    have e5 : (c - 1) * d ≤ 255 * 255 := Nat.mul_le_mul (by omega) (by omega)
    have e6 : t * 2 ^ 16 * c = 2 ^ 16 * (t * c) := by rw [Nat.mul_comm t, Nat.mul_assoc]
    omega

/-- The gap of two means, as the program reckons it: some number that is not too great. -/
theorem gap_spec {c s d t : Nat} (hc1 : 1 ≤ c) (hc : c < 2 ^ 8) (hs : s < 2 ^ 20) (hd1 : 1 ≤ d) (hd : d < 2 ^ 8) (ht : t < 2 ^ 20) (h : s * d < t * c) : ∃ g, double.sub (mb d t) (mb c s) = some g ∧ g < 9218868437227405311 := by
  obtain ⟨_, hb, _, _⟩ := mb_spec hd1 (by omega) ht
  have hl := FP_lt (p := 0) (j := 2 ^ 20) (by omega) (by omega)
  have hq : FP 0 (2 ^ 20) < 9218868437227405311 := by decide +kernel
  obtain ⟨R, h1, h2, _, _⟩ := sub_pos (x := mb d t) (y := mb c s) (by omega) (mb_mono hc1 hc hs hd1 hd ht h)
  exact ⟨R, h1, by omega⟩
theorem mb_one {f : Nat} (hf : f < 2 ^ 10) : mb 1 f = FP 0 f := by
  have a := (mb_ge (c := 1) (s := f) (f := f) (by omega) (by omega) (by omega) hf).2 (by omega)
  obtain ⟨_, _, h2, _⟩ := mb_spec (c := 1) (s := f) (by omega) (by omega) (by omega)
  have b := h2 (FP 0 f) (div_up (a := 0) (i := f) (b := 0) (j := 1) (q := 0) (l := f) (Nat.le_refl _) (by omega) (by omega) (by omega) (by omega) (by omega) (by omega) (by simp))
  omega
theorem mb_lt {c s : Nat} (hc1 : 1 ≤ c) (hc : c < 2 ^ 20) (hs : s < 2 ^ 20) : mb c s < 2047 * 2 ^ 52 := by
  have := (mb_spec hc1 hc hs).2.1
  have := FP_lt (p := 0) (j := 2 ^ 20) (by omega) (by omega)
  omega
/-- The search's test, as the walk sees it. -/
theorem mb_test {c s f : Nat} (hc1 : 1 ≤ c) (hc : c < 2 ^ 8) (hs : s < 2 ^ 20) (hf : f < 2 ^ 10) : (FloatKind.f64.format.order (mb c s) (mb 1 f) == some .gt || FloatKind.f64.format.order (mb c s) (mb 1 f) == some .eq) = decide (f * c ≤ s) := by
  show (double.order _ _ == some .gt || double.order _ _ == some .eq) = _
  rw [order_pos (mb_lt hc1 (by omega) hs) (mb_lt (by omega) (by omega) (by omega)), mb_one hf]
  by_cases h : f * c ≤ s
  · rw [decide_eq_true h]
    have h1 := (mb_ge hc1 (by omega) hs hf).2 h
    rcases Nat.lt_or_eq_of_le h1 with h2 | h2
    · rw [Nat.compare_eq_gt.2 h2]; rfl
    · rw [Nat.compare_eq_eq.2 h2.symm]; rfl
  · rw [decide_eq_false h]
    have h1 : ¬ FP 0 f ≤ mb c s := fun h2 => h ((mb_ge hc1 (by omega) hs hf).1 h2)
    rw [Nat.compare_eq_lt.2 (by omega)]; rfl
end Go.Proofs.YthcgojhfbcgaiaaGreat
