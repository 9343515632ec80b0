/- Blocks of the heap under single stores, makings, draws. No condition. -/
import Derived.Test.YthcgojhfbcgaiaaFloatW
import Derived.Test.YthcgojhfbcgaiaaProg
import Derived.Deep.QuietTactic
import Derived.BigQuiet
import Derived.Lib.Hide
import Derived.Below
namespace Go.Proofs.Ythcgojhfbcgaiaa
open Go.RowKit

theorem cell_of {w : World} {b i : Nat} {c : Array Value} {t : TypeId} {v : Value} (h : w.heap[b]? = some (.cells c t)) (hv : c[i]? = some v) : w.cell? ⟨b, i, none⟩ = some v := by
  unfold World.cell?; rw [h]; simpa using hv
theorem free_of {w : World} {b i : Nat} {c : Array Value} {t : TypeId} (h : w.heap[b]? = some (.cells c t)) : w.frozen? ⟨b, i, none⟩ = false := by
  unfold World.frozen?; rw [h]; simp
theorem lt_of_at {w : World} {b : Nat} {o : Obj} (h : w.heap[b]? = some o) : b < w.heap.size := by
  rcases Nat.lt_or_ge b w.heap.size with h' | h'
  · exact h'
  · rw [Array.getElem?_eq_none h'] at h; cases h
theorem at_alloc {w : World} {b : Nat} {o : Obj} (x : Obj) (h : w.heap[b]? = some o) : (w.alloc x).heap[b]? = some o := by
  rw [Below.heap_alloc _ _ _ (lt_of_at h)]; exact h
theorem at_set {w : World} {b : Nat} {c : Array Value} {t : TypeId} (h : w.heap[b]? = some (.cells c t)) (i : Nat) (v : Value) :
    (w.setCell ⟨b, i, none⟩ v).heap[b]? = some (.cells (c.setIfInBounds i v) t) := by
  simp [World.setCell, Array.getElem?_modify, h]
theorem at_set_other {w : World} {b : Nat} {o : Obj} {a : Addr} (v : Value) (hne : a.block ≠ b) (h : w.heap[b]? = some o) : (w.setCell a v).heap[b]? = some o := by
  simp [World.setCell, Array.getElem?_modify, h, hne]
theorem below_drewN {base : Nat} {a w : World} (h : Below base a w) (n : Nat) : Below base a (w.drewN n) := by
  induction n with
  | zero => exact h
  | succ k ih => exact ih.drew
theorem hp_at (X : World) (o : Obj) (k : Nat) (h : k = X.heap.size) : (X.alloc o).heap[k]? = some o := by
  show (X.heap.push o)[k]? = _
  rw [Array.getElem?_push, if_pos h]
end Go.Proofs.Ythcgojhfbcgaiaa
