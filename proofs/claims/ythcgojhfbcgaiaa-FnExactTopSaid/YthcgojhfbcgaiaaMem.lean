/- Blocks of the heap under stores, makings, draws. No condition. -/
import Derived.Test.YthcgojhfbcgaiaaSmp
import Derived.Test.YthcgojhfbcgaiaaHeap
import Derived.Laws.IdiomCopy
namespace Go.Proofs.Ythcgojhfbcgaiaa
open Go.RowKit Go.Sort Go.Proofs

theorem at_sets {w : World} {b : Nat} {c : Array Value} {t : TypeId} (h : w.heap[b]? = some (.cells c t)) : ∀ (i : Nat) (vs : List Value),
    (w.setCells b i vs).heap[b]? = some (.cells (setMany c i vs) t) := by
  intro i vs
  induction vs generalizing i w c with
  | nil => exact h
  | cons v r ih => exact ih (at_set h i v) (i + 1)
theorem at_sets_other {w : World} {b g : Nat} {o : Obj} (hne : g ≠ b) (h : w.heap[b]? = some o) : ∀ (i : Nat) (vs : List Value), (w.setCells g i vs).heap[b]? = some o := by
  intro i vs
  induction vs generalizing i w with
  | nil => exact h
  | cons v r ih => exact ih (at_set_other v hne h) (i + 1)
theorem below_sets {base g : Nat} {a : World} (hg : base ≤ g) : ∀ (vs : List Value) (i : Nat) (w : World), Below base a w → Below base a (w.setCells g i vs)
  | [], _, _, h => h
  | v :: r, i, w, h => below_sets hg r (i + 1) _ (h.setCell (by exact hg) v)

theorem some_of_get! {F : Array Value} {t : Nat} (h : t < F.size) : F[t]? = some F[t]! := by
  rw [getElem!_pos F t h]; exact Array.getElem?_eq_getElem h

/-- The first samples of a buffer's cells. -/
def BufIs (bc : Array Value) (xs : List SmpF) : Prop := xs.length * 3 ≤ bc.size ∧ ∀ i, i < xs.length → ∀ c, c < 3 → bc[i * 3 + c]! = (encSmp xs[i]!)[c]!
theorem BufIs.nil (bc : Array Value) : BufIs bc [] := ⟨by simp, fun i h => absurd h (by simp)⟩
theorem BufIs.push {bc : Array Value} {xs : List SmpF} (h : BufIs bc xs) (x : SmpF) (hs : (xs.length + 1) * 3 ≤ bc.size) : BufIs (setMany bc (xs.length * 3) (encSmp x)) (xs ++ [x]) := by
  refine ⟨by simp [size_setMany]; omega, fun i hi c hc => ?_⟩
  have hi' : i < xs.length + 1 := by simpa using hi
  rw [get_setMany _ _ _ _ (by omega)]
  have hl : (encSmp x).length = 3 := rfl
  by_cases e : i = xs.length
  · subst e
    rw [if_pos (by rw [hl]; omega), show xs.length * 3 + c - xs.length * 3 = c by omega]
    simp
  · rw [if_neg (by rw [hl]; omega), h.2 i (by omega) c hc]
    have : (xs ++ [x])[i]! = xs[i]! := by
      rw [getElem!_pos _ i hi, getElem!_pos xs i (by omega), List.getElem_append_left]
    rw [this]
theorem BufIs.holds {w : World} {B : Nat} {bc : Array Value} {xs : List SmpF} {t : TypeId} (h : BufIs bc xs) (hB : w.heap[B]? = some (.cells bc t)) : HoldsK encSmp 3 w B 0 xs.toArray := by
  intro j hj
  rw [size_flatK] at hj
  rw [get_flatK _ _ _ _ hj]
  have h1 : j / 3 < xs.length := by simp at hj; omega
  have h2 := h.2 (j / 3) h1 (j % 3) (by omega)
  have hs := h.1
  refine ⟨cell_of hB ?_, free_of hB⟩
  rw [Nat.zero_add, some_of_get! (by simp at hj; omega)]
  rw [show j / 3 * 3 + j % 3 = j by omega] at h2
  rw [h2]
  simp
theorem at_putRowK {w : World} {B : Nat} {bc : Array Value} {t : TypeId} (d : Array SmpF) (hB : w.heap[B]? = some (.cells bc t)) (hs : d.size * 3 ≤ bc.size) :
    ∃ bc', (putRowK encSmp 3 w B 0 d).heap[B]? = some (.cells bc' t) ∧ bc'.size = bc.size ∧ BufIs bc' d.toList := by
  refine ⟨putCells id 0 (flatK encSmp 3 d) bc, ?_, ?_, ?_, ?_⟩
  · simp [putRowK, putRow, mapBlock, Array.getElem?_modify, hB, onCells]
  · simp [putCells]
  · simp [putCells]; omega
  · intro i hi c hc
    have hi' : i < d.size := by simpa using hi
    have : (putCells id 0 (flatK encSmp 3 d) bc)[i * 3 + c]! = (flatK encSmp 3 d)[i * 3 + c]! := by
      have hlt : i * 3 + c < bc.size := by omega
      rw [getElem!_pos _ _ (by simp [putCells]; exact hlt)]
      simp only [putCells, Array.getElem_mapIdx]
      rw [if_pos ⟨Nat.zero_le _, by rw [size_flatK]; omega⟩, Nat.sub_zero]; rfl
    rw [this, get_flatK _ _ _ _ (by omega), show (i * 3 + c) / 3 = i by omega, show (i * 3 + c) % 3 = c by omega]
    simp [hi']
theorem at_putRowK_other {w : World} {B b : Nat} {o : Obj} (d : Array SmpF) (hne : B ≠ b) (h : w.heap[b]? = some o) : (putRowK encSmp 3 w B 0 d).heap[b]? = some o := by
  simp [putRowK, putRow, mapBlock, Array.getElem?_modify, h, hne]
end Go.Proofs.Ythcgojhfbcgaiaa
