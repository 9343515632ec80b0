/- Small whole numbers as floats; rows of floats that a call made itself. -/
import Derived.Test.YthcgojhfbcgaiaaTgt
import Derived.WalkKit
import Derived.OwnWalk
namespace Go.Proofs.Ythcgojhfbcgaiaa
open Go.RowKit Go.Sort Go.Proofs

theorem info_f64 : (Try.prog.info? 26).map (fun i => (i.zero, i.size, i.bytes)) = some (some (.float .f64 0), 1, 8) := by kernel_rfl

/-- A small whole number's float. -/
def fN (m : Nat) : FNN := if h : 16 * m < 2 ^ 53 then ⟨FX ((16 * m : Nat) : Int), FX_lt _ h⟩ else default
theorem fN_b (m : Nat) (h : m < 2 ^ 49) : (fN m).b = floatOfInt .f64 (m : Int) := by
  unfold fN; rw [dif_pos (by omega), FI_FX m h]

/-- A row of floats that the call made itself, as the cells of its values. -/
theorem floats_of_own {w : World} {base n : Nat} {v : Value} {val : Nat → FNN} (h : w.ownsRow base 26 1 v n ((List.range n).map fun i => .float .f64 (val i).b)) :
    (v = .slice none 0 0 ∧ n = 0) ∨ ∃ V cap, v = .slice (some ⟨V, 0, none⟩) n cap ∧ n ≤ cap ∧ cap ≤ maxLen ∧ base ≤ V ∧ V < w.heap.size ∧ FloatsAt w V n val ∧ ∀ i, w.frozen? ⟨V, i, none⟩ = false := by
  rcases h.2 with ⟨h1, h2⟩ | ⟨g, cap, cur, h1, h2, h3, h4, h5, h6, h7⟩
  · exact .inl ⟨h1, h2⟩
  · refine .inr ⟨g, cap, h1, h4, h5, h2, lt_of_at h3, fun i hi => cell_of h3 ?_, fun i => free_of h3⟩
    have := congrArg (fun l => l[i]?) h7
    simp only [List.getElem?_map, List.getElem?_range hi, Option.map_some] at this
    rw [← this, List.getElem?_take_of_lt (by omega)]
    simp

theorem own_slice {w : World} {base size n : Nat} {e : TypeId} {v : Value} {xs : List Value} (h : w.ownsRow base e size v n xs) : ∃ oa oc, v = .slice oa n oc := by
  rcases h.2 with ⟨h1, h2⟩ | ⟨g, cap, cur, h1, _⟩
  · subst h2; exact ⟨_, _, h1⟩
  · exact ⟨_, _, h1⟩

end Go.Proofs.Ythcgojhfbcgaiaa
