/- Sums and differences of floats that are not negative, against representable bounds. Plain lemmas. -/
import Derived.Test.YthcgojhfbcgaiaaGreatFloatQ
namespace Go.Proofs.YthcgojhfbcgaiaaGreat
open Ieee

theorem signed_false (m k : Nat) : signed false m k = ((m * 2 ^ k : Nat) : Int) := by rw [signed_eq]; rfl
theorem signed_true (m k : Nat) : signed true m k = -((m * 2 ^ k : Nat) : Int) := by rw [signed_eq]; rfl

/-- A magnitude in the least units, made a word: against bounds. -/
theorem nearest_units (M c Z : Nat) (h : M * 2 ^ c = Z) : ∃ R, double.nearest false M ((c : Int) - 1074) = min R (2047 * 2 ^ 52) ∧ (∀ ρ, Z ≤ rungVal ρ → R ≤ ρ) ∧ (∀ ρ, rungVal ρ ≤ Z → ρ ≤ R) := by
  by_cases h0 : M = 0
  · refine ⟨0, by rw [h0, nearest_zero]; rfl, fun _ _ => Nat.zero_le _, fun ρ hρ => ?_⟩
    rw [← h, h0, Nat.zero_mul] at hρ
    rcases Nat.eq_zero_or_pos ρ with h1 | h1
    · omega
    · have := rungVal_pos (show ρ ≠ 0 by omega); omega
  · refine ⟨_, by rw [nearest_eq _ _ _ h0, inf_double, word_pos], fun ρ hρ => ?_, fun ρ hρ => ?_⟩
    · exact rung_up _ _ _ h0 c 0 ρ (by omega) (by rw [h, Nat.pow_zero, Nat.mul_one]; exact hρ)
    · exact rung_down _ _ _ h0 c 0 ρ (by omega) (by rw [h, Nat.pow_zero, Nat.mul_one]; exact hρ)

theorem add_pos {x y : Nat} (hx : x < 2047 * 2 ^ 52) (hy : y < 2047 * 2 ^ 52) : ∃ R, double.add x y = some (min R (2047 * 2 ^ 52)) ∧
    (∀ ρ, rungVal x + rungVal y ≤ rungVal ρ → R ≤ ρ) ∧ (∀ ρ, rungVal ρ ≤ rungVal x + rungVal y → ρ ≤ R) := by
  obtain ⟨m, k, h1, h2, _⟩ := read_pos hx
  obtain ⟨n, l, h3, h4, _⟩ := read_pos hy
  unfold Format.add
  rw [h1, h3]
  simp only [Datum.sum, Option.map_some]
  obtain ⟨c, hc⟩ : ∃ c : Nat, c = min k l := ⟨_, rfl⟩
  rw [show min ((k : Int) - 1074) ((l : Int) - 1074) = (c : Int) - 1074 by omega, show ((k : Int) - 1074 - ((c : Int) - 1074)).toNat = k - c by omega,
    show ((l : Int) - 1074 - ((c : Int) - 1074)).toNat = l - c by omega, signed_false, signed_false, ← Int.natCast_add]
  generalize hT : m * 2 ^ (k - c) + n * 2 ^ (l - c) = T
  have hz : T * 2 ^ c = rungVal x + rungVal y := by
    rw [← hT, Nat.add_mul, Nat.mul_assoc, Nat.mul_assoc, ← Nat.pow_add, ← Nat.pow_add, show k - c + c = k by omega, show l - c + c = l by omega, h2, h4]
  have hs : (if (T : Int) = 0 then false && false else decide ((T : Int) < 0)) = false := by split <;> simp
  rw [hs, Int.natAbs_natCast]
  obtain ⟨R, e1, e2, e3⟩ := nearest_units T c _ hz
  exact ⟨R, by rw [← e1]; rfl, e2, e3⟩

theorem sub_pos {x y : Nat} (hx : x < 2047 * 2 ^ 52) (hyx : y ≤ x) : ∃ R, double.sub x y = some R ∧ R ≤ x ∧
    (∀ ρ, rungVal x - rungVal y ≤ rungVal ρ → R ≤ ρ) ∧ (∀ ρ, rungVal ρ ≤ rungVal x - rungVal y → ρ ≤ R) := by
  have hr := rungVal_mono hyx
  obtain ⟨m, k, h1, h2, _⟩ := read_pos hx
  obtain ⟨n, l, h3, h4, _⟩ := read_pos (show y < 2047 * 2 ^ 52 by omega)
  unfold Format.sub
  rw [h1, h3]
  simp only [Datum.sum, Datum.opposite, Option.map_some, Bool.not_false]
  obtain ⟨c, hc⟩ : ∃ c : Nat, c = min k l := ⟨_, rfl⟩
  rw [show min ((k : Int) - 1074) ((l : Int) - 1074) = (c : Int) - 1074 by omega, show ((k : Int) - 1074 - ((c : Int) - 1074)).toNat = k - c by omega,
    show ((l : Int) - 1074 - ((c : Int) - 1074)).toNat = l - c by omega, signed_false, signed_true]
  have e1 : m * 2 ^ (k - c) * 2 ^ c = rungVal x := by rw [Nat.mul_assoc, ← Nat.pow_add, show k - c + c = k by omega, h2]
  have e2 : n * 2 ^ (l - c) * 2 ^ c = rungVal y := by rw [Nat.mul_assoc, ← Nat.pow_add, show l - c + c = l by omega, h4]
  have hle : n * 2 ^ (l - c) ≤ m * 2 ^ (k - c) := Nat.le_of_mul_le_mul_right (by rw [e1, e2]; exact hr) (Nat.two_pow_pos c)
  rw [show ((m * 2 ^ (k - c) : Nat) : Int) + -((n * 2 ^ (l - c) : Nat) : Int) = ((m * 2 ^ (k - c) - n * 2 ^ (l - c) : Nat) : Int) by omega]
  generalize hT : m * 2 ^ (k - c) - n * 2 ^ (l - c) = T
  have hz : T * 2 ^ c = rungVal x - rungVal y := by rw [← hT, Nat.sub_mul, e1, e2]
  have hs : (if (T : Int) = 0 then false && true else decide ((T : Int) < 0)) = false := by split <;> simp
  rw [hs, Int.natAbs_natCast]
  obtain ⟨R, f1, f2, f3⟩ := nearest_units T c _ hz
  have hRx : R ≤ x := f2 x (Nat.sub_le _ _)
  exact ⟨R, by rw [← show min R (2047 * 2 ^ 52) = R by omega, ← f1]; rfl, hRx, f2, f3⟩
end Go.Proofs.YthcgojhfbcgaiaaGreat
