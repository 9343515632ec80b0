/- Floor, ceiling, maximum and conversion to a whole number of floats that are not negative: the library's own entries, and what they give. Conditions: finite, not negative. Sums and differences of floats that are not negative, against representable bounds. Plain lemmas. -/
import Derived.Test.YthcgojhfbcgaiaaGreatDoorMAC
import Derived.Test.YthcgojhfbcgaiaaGreatDoorProg

namespace Go.Proofs.YthcgojhfbcgaiaaGreatDoor
open Go.RowKit Ieee

theorem cut_up (n d : Nat) : Toward.up.cut false n d = (n + 2 ^ d - 1) / 2 ^ d := by
  have hp := Nat.two_pow_pos d
  unfold Toward.cut
  simp only [Nat.one_shiftLeft, Bool.not_false, Bool.true_and]
  by_cases h : d ≤ n.log2 + 2
  · rw [Nat.min_eq_left h]
    have e := Nat.div_add_mod n (2 ^ d)
    have l := Nat.mod_lt n hp
    by_cases h0 : n % 2 ^ d = 0
    · rw [h0, bne_self_eq_false, Bool.toNat_false, Nat.add_zero]
      have : n + 2 ^ d - 1 = 2 ^ d * (n / 2 ^ d) + (2 ^ d - 1) := by omega
      rw [this, Nat.mul_add_div hp, Nat.div_eq_of_lt (show 2 ^ d - 1 < 2 ^ d by omega)]; rfl
    · rw [bne_iff_ne.2 h0, Bool.toNat_true]
      have : n + 2 ^ d - 1 = 2 ^ d * (n / 2 ^ d + 1) + (n % 2 ^ d - 1) := by rw [Nat.mul_add]; omega
      rw [this, Nat.mul_add_div hp, Nat.div_eq_of_lt (show n % 2 ^ d - 1 < 2 ^ d by omega)]
  · rw [Nat.min_eq_right (by omega)]
    have h1 : n < 2 ^ (n.log2 + 1) := Nat.lt_log2_self
    have h2 : 2 ^ (n.log2 + 2) = 2 * 2 ^ (n.log2 + 1) := by rw [Nat.pow_succ, Nat.mul_comm]
    have h3 : 2 ^ (n.log2 + 2) ≤ 2 ^ d := Nat.pow_le_pow_right (by omega) (by omega)
    rw [Nat.div_eq_of_lt (by omega), Nat.mod_eq_of_lt (by omega), Nat.zero_add]
    by_cases h0 : n = 0
    · rw [h0, bne_self_eq_false, Bool.toNat_false, Nat.div_eq_of_lt (by omega)]
    · rw [bne_iff_ne.2 h0, Bool.toNat_true]
      have : n + 2 ^ d - 1 = 2 ^ d * 1 + (n - 1) := by omega
      rw [this, Nat.mul_add_div hp, Nat.div_eq_of_lt (by omega)]

theorem cut_floor_aux (n d : Nat) : n / 2 ^ min d (n.log2 + 2) = n / 2 ^ d := by
  by_cases h : d ≤ n.log2 + 2
  · rw [Nat.min_eq_left h]
  · rw [Nat.min_eq_right (by omega)]
    have h1 : n < 2 ^ (n.log2 + 1) := Nat.lt_log2_self
    have h2 : 2 ^ (n.log2 + 2) = 2 * 2 ^ (n.log2 + 1) := by rw [Nat.pow_succ, Nat.mul_comm]
    have h3 : 2 ^ (n.log2 + 2) ≤ 2 ^ d := Nat.pow_le_pow_right (by omega) (by omega)
    rw [Nat.div_eq_of_lt (by omega), Nat.div_eq_of_lt (by omega)]
theorem cut_floor (way : Toward) (hw : way = .down ∨ way = .zero) (n d : Nat) : way.cut false n d = n / 2 ^ d := by
  rw [← cut_floor_aux]
  rcases hw with rfl | rfl <;> simp [Toward.cut, Nat.one_shiftLeft]

/-- The whole part, and what is next above. -/
def wholeOf (x : Nat) : Nat := rungVal x / 2 ^ E74
def aboveOf (x : Nat) : Nat := (rungVal x + 2 ^ E74 - 1) / 2 ^ E74

theorem scale_div (m a b : Nat) : m * 2 ^ a / 2 ^ b = (m <<< (a - b)) / 2 ^ (b - a) := by
  rw [Nat.shiftLeft_eq]
  rcases Nat.le_total b a with h | h
  · rw [show b - a = 0 by omega, Nat.pow_zero, Nat.div_one]
    obtain ⟨c, rfl⟩ : ∃ c, a = c + b := ⟨a - b, by omega⟩
    rw [Nat.add_sub_cancel, Nat.pow_add, ← Nat.mul_assoc, Nat.mul_div_cancel _ (Nat.two_pow_pos b)]
  · rw [show a - b = 0 by omega, Nat.pow_zero, Nat.mul_one]
    obtain ⟨c, rfl⟩ : ∃ c, b = c + a := ⟨b - a, by omega⟩
    rw [Nat.add_sub_cancel, Nat.pow_add, Nat.mul_div_mul_right _ _ (Nat.two_pow_pos a)]
theorem scale_up (m a b : Nat) : (m * 2 ^ a + 2 ^ b - 1) / 2 ^ b = ((m <<< (a - b)) + 2 ^ (b - a) - 1) / 2 ^ (b - a) := by
  rw [Nat.shiftLeft_eq]
  rcases Nat.le_total b a with h | h
  · rw [show b - a = 0 by omega, Nat.pow_zero, Nat.div_one, Nat.add_sub_cancel]
    obtain ⟨c, rfl⟩ : ∃ c, a = c + b := ⟨a - b, by omega⟩
    have hp := Nat.two_pow_pos b
    rw [Nat.add_sub_cancel, Nat.pow_add, ← Nat.mul_assoc, Nat.mul_comm (m * 2 ^ c), Nat.add_sub_assoc hp, Nat.mul_add_div hp, Nat.div_eq_of_lt (by omega), Nat.add_zero]
  · rw [show a - b = 0 by omega, Nat.pow_zero, Nat.mul_one]
    obtain ⟨c, rfl⟩ : ∃ c, b = c + a := ⟨b - a, by omega⟩
    rw [Nat.add_sub_cancel]
    have hp := Nat.two_pow_pos a
    have hc := Nat.two_pow_pos c
    -- ceil of a quotient by its characterization
    have key : ∀ (n g q : Nat), 0 < g → ((n + g - 1) / g = q ↔ (n ≤ q * g ∧ (q = 0 ∨ (q - 1) * g < n))) := by
      intro n g q hg
      constructor
      · intro hq
        have e := Nat.div_add_mod (n + g - 1) g
        have l := Nat.mod_lt (n + g - 1) hg
        rw [hq, Nat.mul_comm] at e
        refine ⟨by omega, ?_⟩
        rcases Nat.eq_zero_or_pos q with h0 | h0
        · exact Or.inl h0
        · right
          have : (q - 1) * g + g = q * g := by rw [← Nat.succ_mul]; congr 1; omega
          omega
      · rintro ⟨h1, h2⟩
        rcases h2 with h2 | h2
        · subst h2; rw [Nat.zero_mul] at h1; exact Nat.div_eq_of_lt (by omega)
        · have hq : 0 < q := by
            rcases Nat.eq_zero_or_pos q with h0 | h0
            · subst h0; omega
            · exact h0
          have e : (q - 1) * g + g = q * g := by rw [← Nat.succ_mul]; congr 1; omega
          rw [show n + g - 1 = g * q + (n + g - 1 - g * q) by rw [Nat.mul_comm] at *; omega, Nat.mul_add_div hg, Nat.div_eq_of_lt (by rw [Nat.mul_comm g q]; omega), Nat.add_zero]
    obtain ⟨q, hq⟩ : ∃ q, q = (m + 2 ^ c - 1) / 2 ^ c := ⟨_, rfl⟩
    rw [← hq]
    obtain ⟨k1, k2⟩ := (key m (2 ^ c) q hc).1 hq.symm
    refine (key _ _ _ (Nat.two_pow_pos _)).2 ⟨?_, k2.imp id fun h => ?_⟩
    · rw [Nat.pow_add, ← Nat.mul_assoc]; exact Nat.mul_le_mul_right _ k1
    · rw [Nat.pow_add, ← Nat.mul_assoc]; exact Nat.mul_lt_mul_of_pos_right h hp

theorem integral_floor (way : Toward) (hw : way = .down ∨ way = .zero) {x : Nat} (h : x < 2047 * 2 ^ 52) : (double.read x).integral way = .number false (wholeOf x) 0 := by
  obtain ⟨m, k, h1, h2, _⟩ := read_pos h
  have E := E74_eq
  rw [h1, Datum.integral, cut_floor way hw, wholeOf, ← h2, scale_div]
  congr 2
  · congr 1; omega
  · congr 1; omega
theorem integral_up {x : Nat} (h : x < 2047 * 2 ^ 52) : (double.read x).integral .up = .number false (aboveOf x) 0 := by
  obtain ⟨m, k, h1, h2, _⟩ := read_pos h
  have E := E74_eq
  rw [h1, Datum.integral, cut_up, aboveOf, ← h2, scale_up]
  rw [show ((k : Int) - 1074).toNat = k - E74 by omega, show (-((k : Int) - 1074)).toNat = E74 - k by omega]

theorem notNaN_pos {x : Nat} (h : x < 2047 * 2 ^ 52) : ∃ s m e, double.read x = .number s m e := by
  obtain ⟨m, k, h1, _, _⟩ := read_pos h
  exact ⟨_, _, _, h1⟩

theorem encode_whole (n : Nat) : double.write (.number false n 0) = floatOfInt .f64 n := by
  show double.nearest false n 0 = double.nearest (decide ((n : Int) < 0)) (n : Int).natAbs 0
  rw [decide_eq_false (show ¬ (n : Int) < 0 by omega)]; rfl

theorem wholeOf_FX (j : Nat) (h : j < 2 ^ 53) : wholeOf (FX j) = j / 16 := by
  have := (FP_spec (p := 4) h (by omega)).2
  rw [← FX_FP] at this
  unfold wholeOf
  have E : E74 = 4 + E70 := by have := E74_eq; have := E70_eq; omega
  have e1 : rungVal (FX j) = j * 2 ^ E70 := by
    rw [E, Nat.pow_add, ← Nat.mul_assoc, Nat.mul_right_comm] at this
    exact Nat.eq_of_mul_eq_mul_right (by omega) this
  rw [e1, E, Nat.pow_add, Nat.mul_div_mul_right _ _ (Nat.two_pow_pos _)]
theorem aboveOf_FX (j : Nat) (h : j < 2 ^ 53) : aboveOf (FX j) = (j + 15) / 16 := by
  have := (FP_spec (p := 4) h (by omega)).2
  rw [← FX_FP] at this
  unfold aboveOf
  have E : E74 = 4 + E70 := by have := E74_eq; have := E70_eq; omega
  have e1 : rungVal (FX j) = j * 2 ^ E70 := by
    rw [E, Nat.pow_add, ← Nat.mul_assoc, Nat.mul_right_comm] at this
    exact Nat.eq_of_mul_eq_mul_right (by omega) this
  rw [e1, scale_up, show E70 - E74 = 0 by omega, show E74 - E70 = 4 by omega]
  rw [Nat.shiftLeft_eq]; simp

theorem FX_lt (j : Nat) (h : j < 2 ^ 53) : FX j < 2047 * 2 ^ 52 := by rw [FX_FP]; exact (FP_spec h (by omega)).1
theorem FI_FX (n : Nat) (h : n < 2 ^ 49) : floatOfInt .f64 n = FX ((16 * n : Nat) : Int) := by
  rw [FI_eq (by omega)]; congr 1
theorem FI_lt (n : Nat) (h : n < 2 ^ 49) : floatOfInt .f64 n < 2047 * 2 ^ 52 := by rw [FI_FX n h]; exact FX_lt _ (by omega)

/-! ### The library's entries -/
theorem toIntegral_pos (name : String) (way : Toward) (x n : Nat) (h : x < 2047 * 2 ^ 52) (hi : (double.read x).integral way = .number false n 0) :
    Extern.MathFloor.toIntegral name way #[.float .f64 x] = pure (.float .f64 (floatOfInt .f64 n)) := by
  obtain ⟨s, m, e, hr⟩ := notNaN_pos h
  show (match double.read x with
    | .nan s t => _
    | d => (pure (.float .f64 (double.write (d.integral way))) : Sem Value)) = _
  rw [← encode_whole, ← hi, hr]
theorem run_archCeil (x : Nat) (h : x < 2047 * 2 ^ 52) (w : World) : (callFunc 77 #[.float .f64 x]).run Tryz.prog w = .ok (.value (.float .f64 (floatOfInt .f64 (aboveOf x)))) w := by
  rw [run_callFunc_extern (fn := Tryz.f77) (e := Extern.MathFloor.toIntegral "math.archCeil" .up) (by kernel_rfl) (by kernel_rfl) (by kernel_rfl) (by kernel_rfl) (by kernel_rfl)]
  rw [toIntegral_pos _ _ _ _ h (integral_up h)]; rfl
theorem run_archFloor (x : Nat) (h : x < 2047 * 2 ^ 52) (w : World) : (callFunc 111 #[.float .f64 x]).run Tryz.prog w = .ok (.value (.float .f64 (floatOfInt .f64 (wholeOf x)))) w := by
  rw [run_callFunc_extern (fn := Tryz.f111) (e := Extern.MathFloor.toIntegral "math.archFloor" .down) (by kernel_rfl) (by kernel_rfl) (by kernel_rfl) (by kernel_rfl) (by kernel_rfl)]
  rw [toIntegral_pos _ _ _ _ h (integral_floor .down (Or.inl rfl) h)]; rfl

set_option maxHeartbeats 400000 in
set_option maxRecDepth 10000 in
theorem ceil_calls (x : Nat) (h : x < 2047 * 2 ^ 52) (w : World) : Calls Tryz.prog 46 #[.float .f64 x] w fun e w' => e = .returned (.float .f64 (floatOfInt .f64 (aboveOf x))) ∧ w = w' := by
  have hc := run_archCeil x h
  clear h
  go_enter Tryz.func46, Tryz.ntmps46
  go_wp2
  go_ret
  exact ⟨rfl, rfl⟩
set_option maxHeartbeats 400000 in
set_option maxRecDepth 10000 in
theorem floor_calls (x : Nat) (h : x < 2047 * 2 ^ 52) (w : World) : Calls Tryz.prog 93 #[.float .f64 x] w fun e w' => e = .returned (.float .f64 (floatOfInt .f64 (wholeOf x))) ∧ w = w' := by
  have hc := run_archFloor x h
  clear h
  go_enter Tryz.func93, Tryz.ntmps93
  go_wp2
  go_ret
  exact ⟨rfl, rfl⟩

theorem toInt_pos (x : Nat) (h : x < 2047 * 2 ^ 52) (hb : wholeOf x < 2 ^ 62) : floatToIntVal .f64 x .i64 = some (wholeOf x : Int) := by
  have hi := integral_floor .zero (Or.inr rfl) h
  unfold floatToIntVal
  have e : (FloatKind.f64.decode x).toInt .zero = some (wholeOf x : Int) := by
    show (match (double.read x).integral .zero with | .number s m _ => some (signed s m 0) | _ => none) = _
    rw [hi]
    show some (signed false (wholeOf x) 0) = _
    rw [signed_eq]; simp
  rw [e]
  simp only [IntKind.min, IntKind.max, IntKind.signed, IntKind.bits]
  rw [if_pos]
  simp; omega
end Go.Proofs.YthcgojhfbcgaiaaGreatDoor

namespace Go.Proofs.YthcgojhfbcgaiaaGreatDoor
open Ieee

theorem signed_false (m k : Nat) : signed false m k = ((m * 2 ^ k : Nat) : Int) := by rw [signed_eq]; rfl
theorem signed_true (m k : Nat) : signed true m k = -((m * 2 ^ k : Nat) : Int) := by rw [signed_eq]; rfl

/-- A magnitude in the least units, made a word: against bounds. -/
theorem nearest_units (M c Z : Nat) (h : M * 2 ^ c = Z) : ∃ R, double.nearest false M ((c : Int) - 1074) = min R (2047 * 2 ^ 52) ∧ (∀ ρ, Z ≤ rungVal ρ → R ≤ ρ) ∧ (∀ ρ, rungVal ρ ≤ Z → ρ ≤ R) := by
  by_cases h0 : M = 0
  · refine ⟨0, by rw [h0, nearest_zero]; rfl, fun _ _ => Nat.zero_le _, fun ρ hρ => ?_⟩
    rw [← h, h0, Nat.zero_mul] at hρ
    rcases Nat.eq_zero_or_pos ρ with h1 | h1
    · omega
    · have := rungVal_pos (show ρ ≠ 0 by omega); omega
  · refine ⟨_, by rw [nearest_eq _ _ _ h0, inf_double, word_pos], fun ρ hρ => ?_, fun ρ hρ => ?_⟩
    · exact rung_up _ _ _ h0 c 0 ρ (by omega) (by rw [h, Nat.pow_zero, Nat.mul_one]; exact hρ)
    · exact rung_down _ _ _ h0 c 0 ρ (by omega) (by rw [h, Nat.pow_zero, Nat.mul_one]; exact hρ)

theorem add_pos {x y : Nat} (hx : x < 2047 * 2 ^ 52) (hy : y < 2047 * 2 ^ 52) : ∃ R, double.add x y = some (min R (2047 * 2 ^ 52)) ∧
    (∀ ρ, rungVal x + rungVal y ≤ rungVal ρ → R ≤ ρ) ∧ (∀ ρ, rungVal ρ ≤ rungVal x + rungVal y → ρ ≤ R) := by
  obtain ⟨m, k, h1, h2, _⟩ := read_pos hx
  obtain ⟨n, l, h3, h4, _⟩ := read_pos hy
  unfold Format.add
  rw [h1, h3]
  simp only [Datum.sum, Option.map_some]
  obtain ⟨c, hc⟩ : ∃ c : Nat, c = min k l := ⟨_, rfl⟩
  rw [show min ((k : Int) - 1074) ((l : Int) - 1074) = (c : Int) - 1074 by omega, show ((k : Int) - 1074 - ((c : Int) - 1074)).toNat = k - c by omega,
    show ((l : Int) - 1074 - ((c : Int) - 1074)).toNat = l - c by omega, signed_false, signed_false, ← Int.natCast_add]
  generalize hT : m * 2 ^ (k - c) + n * 2 ^ (l - c) = T
  have hz : T * 2 ^ c = rungVal x + rungVal y := by
    rw [← hT, Nat.add_mul, Nat.mul_assoc, Nat.mul_assoc, ← Nat.pow_add, ← Nat.pow_add, show k - c + c = k by omega, show l - c + c = l by omega, h2, h4]
  have hs : (if (T : Int) = 0 then false && false else decide ((T : Int) < 0)) = false := by split <;> simp
  rw [hs, Int.natAbs_natCast]
  obtain ⟨R, e1, e2, e3⟩ := nearest_units T c _ hz
  exact ⟨R, by rw [← e1]; rfl, e2, e3⟩

theorem sub_pos {x y : Nat} (hx : x < 2047 * 2 ^ 52) (hyx : y ≤ x) : ∃ R, double.sub x y = some R ∧ R ≤ x ∧
    (∀ ρ, rungVal x - rungVal y ≤ rungVal ρ → R ≤ ρ) ∧ (∀ ρ, rungVal ρ ≤ rungVal x - rungVal y → ρ ≤ R) := by
  have hr := rungVal_mono hyx
  obtain ⟨m, k, h1, h2, _⟩ := read_pos hx
  obtain ⟨n, l, h3, h4, _⟩ := read_pos (show y < 2047 * 2 ^ 52 by omega)
  unfold Format.sub
  rw [h1, h3]
  simp only [Datum.sum, Datum.opposite, Option.map_some, Bool.not_false]
  obtain ⟨c, hc⟩ : ∃ c : Nat, c = min k l := ⟨_, rfl⟩
  rw [show min ((k : Int) - 1074) ((l : Int) - 1074) = (c : Int) - 1074 by omega, show ((k : Int) - 1074 - ((c : Int) - 1074)).toNat = k - c by omega,
    show ((l : Int) - 1074 - ((c : Int) - 1074)).toNat = l - c by omega, signed_false, signed_true]
  have e1 : m * 2 ^ (k - c) * 2 ^ c = rungVal x := by rw [Nat.mul_assoc, ← Nat.pow_add, show k - c + c = k by omega, h2]
  have e2 : n * 2 ^ (l - c) * 2 ^ c = rungVal y := by rw [Nat.mul_assoc, ← Nat.pow_add, show l - c + c = l by omega, h4]
  have hle : n * 2 ^ (l - c) ≤ m * 2 ^ (k - c) := Nat.le_of_mul_le_mul_right (by rw [e1, e2]; exact hr) (Nat.two_pow_pos c)
  rw [show ((m * 2 ^ (k - c) : Nat) : Int) + -((n * 2 ^ (l - c) : Nat) : Int) = ((m * 2 ^ (k - c) - n * 2 ^ (l - c) : Nat) : Int) by omega]
  generalize hT : m * 2 ^ (k - c) - n * 2 ^ (l - c) = T
  have hz : T * 2 ^ c = rungVal x - rungVal y := by rw [← hT, Nat.sub_mul, e1, e2]
  have hs : (if (T : Int) = 0 then false && true else decide ((T : Int) < 0)) = false := by split <;> simp
  rw [hs, Int.natAbs_natCast]
  obtain ⟨R, f1, f2, f3⟩ := nearest_units T c _ hz
  have hRx : R ≤ x := f2 x (Nat.sub_le _ _)
  exact ⟨R, by rw [← show min R (2047 * 2 ^ 52) = R by omega, ← f1]; rfl, hRx, f2, f3⟩
end Go.Proofs.YthcgojhfbcgaiaaGreatDoor
