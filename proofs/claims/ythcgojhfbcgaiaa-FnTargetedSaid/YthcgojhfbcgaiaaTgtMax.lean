/- math.Max at nothing and a whole number; the float forms of the stream's counts. -/
import Derived.Test.YthcgojhfbcgaiaaTgtMem
namespace Go.Proofs.Ythcgojhfbcgaiaa
open Go.RowKit Go.Sort Go.Proofs

def maxR (x y : Nat) : Nat :=
  let a := FloatKind.f64.decode x
  let b := FloatKind.f64.decode y
  if a == .infinity false || b == .infinity false then FloatKind.f64.encode (.infinity false)
  else if a.isNaN || b.isNaN then 0x7FF8000000000001
  else if a.isZero && b.isZero then (if a.neg == false then x else y)
  else if a.order b == some .gt then x else y
set_option maxRecDepth 100000 in
theorem maxR_whole : ∀ a, a < 800 → maxR 0 (floatOfInt .f64 ((a : Nat) : Int)) = floatOfInt .f64 ((a : Nat) : Int) := by decide +kernel
theorem run_archMax (a : Nat) (h : a < 800) (w : World) : (callFunc 111 #[.float .f64 0, .float .f64 (floatOfInt .f64 (a : Int))]).run Try.prog w = .ok (.value (.float .f64 (floatOfInt .f64 (a : Int)))) w := by
  rw [run_callFunc_extern (fn := Try.f111) (e := Extern.MathDim.pick "math.archMax" false .gt) (by kernel_rfl) (by kernel_rfl) (by kernel_rfl) (by kernel_rfl) (by kernel_rfl)]
  have e : Extern.MathDim.pick "math.archMax" false .gt #[.float .f64 0, .float .f64 (floatOfInt .f64 (a : Int))] = pure (.float .f64 (maxR 0 (floatOfInt .f64 (a : Int)))) := rfl
  rw [e, maxR_whole a h]; rfl
set_option maxHeartbeats 400000 in
set_option maxRecDepth 10000 in
theorem max_calls (a : Nat) (h : a < 800) (w : World) : Calls Try.prog 83 #[.float .f64 0, .float .f64 (floatOfInt .f64 (a : Int))] w fun e w' => e = .returned (.float .f64 (floatOfInt .f64 (a : Int))) ∧ w = w' := by
  have hc := run_archMax a h
  clear h
  go_enter Try.func83, Try.ntmps83
  go_wp2
  go_ret
  exact ⟨rfl, rfl⟩

theorem fi_add (a b : Nat) (ha : a < 2 ^ 40) (hb : b < 2 ^ 40) : Ieee.double.add (floatOfInt .f64 (a : Int)) (floatOfInt .f64 (b : Int)) = some (floatOfInt .f64 ((a + b : Nat) : Int)) := by
  rw [FI_FX a (by omega), FI_FX b (by omega), FI_FX (a + b) (by omega), FX_add (by omega) (by omega)]
  congr 2; omega
theorem fi_sub (a b : Nat) (ha : a < 2 ^ 40) (h : b ≤ a) : Ieee.double.sub (floatOfInt .f64 (a : Int)) (floatOfInt .f64 (b : Int)) = some (floatOfInt .f64 ((a - b : Nat) : Int)) := by
  rw [FI_FX a (by omega), FI_FX b (by omega), FI_FX (a - b) (by omega), FX_sub (by omega) (by omega)]
  congr 2; omega
theorem fi_one : floatOfInt .f64 ((1 : Nat) : Int) = 4607182418800017408 := by decide +kernel
theorem fi_FX16 : FX 16 = floatOfInt .f64 ((1 : Nat) : Int) := by decide +kernel
theorem fi_FX0 : FX 0 = floatOfInt .f64 ((0 : Nat) : Int) := by decide +kernel
/-- Whole numbers' floats compare as they do. -/
theorem fi_order (a b : Nat) (ha : a < 2 ^ 40) (hb : b < 2 ^ 40) : Ieee.double.order (floatOfInt .f64 (a : Int)) (floatOfInt .f64 (b : Int)) = some (compare a b) := by
  rw [FI_FX a (by omega), FI_FX b (by omega), FX_order (by omega) (by omega)]
  simp only [compare, compareOfLessAndEq]
  congr 1
  by_cases h1 : a < b
  · rw [if_pos h1, if_pos (by omega)]
  · rw [if_neg h1, if_neg (by omega)]
    by_cases h2 : a = b
    · subst h2; simp
    · rw [if_neg h2, if_neg (by omega)]
theorem fi_gt (a b : Nat) (ha : a < 2 ^ 40) (hb : b < 2 ^ 40) : (FloatKind.f64.format.order (floatOfInt .f64 (a : Int)) (floatOfInt .f64 (b : Int)) == some .gt) = decide (b < a) := by
  show (Ieee.double.order _ _ == some .gt) = _
  rw [fi_order a b ha hb]
  by_cases h : b < a
  · rw [Nat.compare_eq_gt.2 h, decide_eq_true h]; rfl
  · rw [decide_eq_false h]
    rcases Nat.lt_or_eq_of_le (Nat.le_of_not_lt h) with h2 | h2
    · rw [Nat.compare_eq_lt.2 h2]; rfl
    · rw [Nat.compare_eq_eq.2 h2]; rfl
end Go.Proofs.Ythcgojhfbcgaiaa
