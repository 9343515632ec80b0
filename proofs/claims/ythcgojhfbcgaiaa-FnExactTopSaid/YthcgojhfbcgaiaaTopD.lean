/- sort.Sort(sort.Reverse(sm)) of at most twelve: a permutation. Conditions: the row lies in memory. -/
import Derived.Test.YthcgojhfbcgaiaaTopC
namespace Go.Proofs.Ythcgojhfbcgaiaa
open Go.RowKit Go.Maps Go.Proofs

theorem mS_Len (N : Nat) (v : Value) (w : World) : (method (N + 2) 68 v "Len").run Try.prog w = .ok (157, v) w := by kernel_rfl
theorem mS_Swap (N : Nat) (v : Value) (w : World) : (method (N + 2) 68 v "Swap").run Try.prog w = .ok (159, v) w := by kernel_rfl
theorem mS_Less (N : Nat) (v : Value) (w : World) : (method (N + 2) 68 v "Less").run Try.prog w = .ok (158, v) w := by kernel_rfl
def viaIface (N : Nat) (name : String) (v : Value) : Sem (FuncId × Value) := match v with
  | .iface t' v' => method (N + 2) t' v' name
  | .nilIface => runtimePanic .nilDeref
  | _ => stuck "method row: interface value expected"
theorem viaR_Len (N r : Nat) (w : World) :
    (method (N + 3) 121 (.pointer (some ⟨r, 0, none⟩)) "Len").run Try.prog w = (do let v ← loadVar 106 ⟨r, 0, none⟩; viaIface N "Len" v : Sem (FuncId × Value)).run Try.prog w := by kernel_rfl
theorem viaR_Swap (N r : Nat) (w : World) :
    (method (N + 3) 121 (.pointer (some ⟨r, 0, none⟩)) "Swap").run Try.prog w = (do let v ← loadVar 106 ⟨r, 0, none⟩; viaIface N "Swap" v : Sem (FuncId × Value)).run Try.prog w := by kernel_rfl
theorem viaR_Less (N r : Nat) (w : World) :
    (method (N + 3) 121 (.pointer (some ⟨r, 0, none⟩)) "Less").run Try.prog w = (do let v ← loadVar 123 ⟨r, 0, none⟩; pure (164, v) : Sem (FuncId × Value)).run Try.prog w := by kernel_rfl
section
variable {w : World} {r : Nat} {v : Value}
theorem load_If (h : w.cell? ⟨r, 0, none⟩ = some (.iface 68 v)) : (loadVar 106 ⟨r, 0, none⟩).run Try.prog w = .ok (.iface 68 v) w := by
  go_simp
theorem load_Rv (h : w.cell? ⟨r, 0, none⟩ = some (.iface 68 v)) : (loadVar 123 ⟨r, 0, none⟩).run Try.prog w = .ok (.agg #[.iface 68 v]) w := by
  go_simp
theorem mR_Len (h : w.cell? ⟨r, 0, none⟩ = some (.iface 68 v)) (N : Nat) : (method (N + 3) 121 (.pointer (some ⟨r, 0, none⟩)) "Len").run Try.prog w = .ok (157, v) w := by
  rw [viaR_Len]; simp [load_If h, Result.andThen, viaIface, mS_Len]
theorem mR_Swap (h : w.cell? ⟨r, 0, none⟩ = some (.iface 68 v)) (N : Nat) : (method (N + 3) 121 (.pointer (some ⟨r, 0, none⟩)) "Swap").run Try.prog w = .ok (159, v) w := by
  rw [viaR_Swap]; simp [load_If h, Result.andThen, viaIface, mS_Swap]
theorem mR_Less (h : w.cell? ⟨r, 0, none⟩ = some (.iface 68 v)) (N : Nat) : (method (N + 3) 121 (.pointer (some ⟨r, 0, none⟩)) "Less").run Try.prog w = .ok (164, .agg #[.iface 68 v]) w := by
  rw [viaR_Less]; simp [load_Rv h, Result.andThen]
end
end Go.Proofs.Ythcgojhfbcgaiaa
