/- spec.RankNear's bound: a rank so near passes. Plain lemmas on floats. -/
import Derived.Test.YthcgojhfbcgaiaaTgtRankT
namespace Go.Proofs.Ythcgojhfbcgaiaa
open Ieee

theorem icmp_lt {a b : Int} (h : a < b) : compare a b = .lt := by simp only [compare, compareOfLessAndEq]; rw [if_pos h]
theorem icmp_eq (a : Int) : compare a a = .eq := by simp only [compare, compareOfLessAndEq]; rw [if_neg (by omega)]; rfl
theorem icmp_gt {a b : Int} (h : b < a) : compare a b = .gt := by simp only [compare, compareOfLessAndEq]; rw [if_neg (by omega), if_neg (by omega)]
theorem Fz_neg {u : Nat} (h : u < 2047 * 2 ^ 52) (h0 : rungVal u ≠ 0) : Fz (2 ^ 63 + u) (-(rungVal u : Int)) := by
  obtain ⟨m, k, h1, h2, h3⟩ := read_word true u h
  have hw : double.word true u = 2 ^ 63 + u := by unfold Format.word; rfl
  rw [hw] at h1
  refine ⟨m, k, ?_, by rw [h2, Int.natAbs_neg, Int.natAbs_natCast], h3⟩
  rw [h1, decide_eq_true (show -(rungVal u : Int) < 0 by omega)]

/-- THE BOUND: what RankNear reckons, and that a rank so near passes. -/
theorem rank_near (n : Nat) (hn : n ≤ 1200) : ∃ p u, double.mul eps3 (FX ((16 * n : Nat) : Int)) = some p ∧ double.add p 4617315517961601024 = some u ∧
    double.mul (2 ^ 63 + eps3) (FX ((16 * n : Nat) : Int)) = some (2 ^ 63 + p) ∧ double.sub (2 ^ 63 + p) 4617315517961601024 = some (2 ^ 63 + u) ∧
    ∀ i : Int, 100 * i ≤ 96 * n + 7900 → -(96 * (n : Int) + 7900) ≤ 100 * i →
      (double.order (FX i) u == some .lt || double.order (FX i) u == some .eq) = true ∧ (double.order (FX i) (2 ^ 63 + u) == some .gt || double.order (FX i) (2 ^ 63 + u) == some .eq) = true := by
  have h := List.all_eq_true.1 okU_all n (by simp; omega)
  unfold okU at h
  rw [← FX_FP] at h
  split at h
  · rename_i p hp
    split at h
    · rename_i u hu
      simp only [Bool.and_eq_true, decide_eq_true_eq] at h
      obtain ⟨⟨⟨h1, h2⟩, h3⟩, h4⟩ := h
      refine ⟨p, u, hp, hu, h3, h4, fun i hi1 hi2 => ?_⟩
      obtain ⟨D, hD⟩ : ∃ D, D = (96 * n + 7900) / 100 := ⟨_, rfl⟩
      rw [← hD] at h1
      have hv := rungVal_mono h1
      have e := (FP_spec (p := 4) (j := D) (by omega) (by omega)).2
      have hE : (2 : Nat) ^ E74 = 2 ^ E70 * 2 ^ 4 := by rw [show E74 = E70 + 4 by rw [E74_eq, E70_eq], Nat.pow_add]
      rw [hE, ← Nat.mul_assoc] at e
      have e' := Nat.mul_right_cancel (Nat.two_pow_pos 4) e
      rw [e'] at hv
      have hp := pow_pos_int E70
      have hpn := Nat.two_pow_pos E70
      have hv' : (D : Int) * 2 ^ E70 ≤ (rungVal u : Int) := by
        have : ((D * 2 ^ E70 : Nat) : Int) ≤ (rungVal u : Int) := by exact_mod_cast hv
        simpa using this
      have hup : i * 2 ^ E70 ≤ (D : Int) * 2 ^ E70 := Int.mul_le_mul_of_nonneg_right (by omega) (Int.le_of_lt hp)
      have hdn : -(D : Int) * 2 ^ E70 ≤ i * 2 ^ E70 := Int.mul_le_mul_of_nonneg_right (by omega) (Int.le_of_lt hp)
      rw [Int.neg_mul] at hdn
      have h0 : rungVal u ≠ 0 := fun e => by
        rw [e] at hv
        have := Nat.mul_pos (show 0 < D by omega) hpn
        omega
      have hFX := FX_Fz (j := i) (by omega)
      rw [order_Fz hFX (Fz_pos h2), order_Fz hFX (Fz_neg h2 h0)]
      constructor
      · rcases Int.lt_or_eq_of_le (Int.le_trans hup hv') with h | h
        · rw [icmp_lt h]; rfl
        · rw [h, icmp_eq]; rfl
      · rcases Int.lt_or_eq_of_le (show -(rungVal u : Int) ≤ i * 2 ^ E70 by omega) with h | h
        · rw [icmp_gt h]; rfl
        · rw [← h, icmp_eq]; rfl
    · cases h
  · cases h
end Go.Proofs.Ythcgojhfbcgaiaa
