/- spec.RankNear's bound, as a table. Plain lemmas on floats. -/
import Derived.Test.YthcgojhfbcgaiaaTgtNum
namespace Go.Proofs.Ythcgojhfbcgaiaa
open Ieee

/-- Three times the error. -/
def eps3 : Nat := 4588807732320345784
theorem eps3_mul : double.mul 4613937818241073152 4581421828931458171 = some eps3 := by decide +kernel
theorem eps3_neg : double.mul 13837309855095848960 4581421828931458171 = some (2 ^ 63 + eps3) := by decide +kernel
def okU (n : Nat) : Bool :=
  match double.mul eps3 (FP 4 (16 * n)) with
  | some p => match double.add p 4617315517961601024 with
    | some u => decide (FP 4 ((96 * n + 7900) / 100) ≤ u) && decide (u < 2047 * 2 ^ 52) && decide (double.mul (2 ^ 63 + eps3) (FP 4 (16 * n)) = some (2 ^ 63 + p)) && decide (double.sub (2 ^ 63 + p) 4617315517961601024 = some (2 ^ 63 + u))
    | none => false
  | none => false
set_option maxRecDepth 100000 in
theorem okU_all : (List.range 1201).all okU = true := by decide +kernel

end Go.Proofs.Ythcgojhfbcgaiaa
