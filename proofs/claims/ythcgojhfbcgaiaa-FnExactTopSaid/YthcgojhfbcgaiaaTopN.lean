/- Sorted words without repetition. Plain lemmas. -/
import Derived.Test.YthcgojhfbcgaiaaTopP
import Derived.Lib.SlicesCompact
namespace Go.Proofs.Ythcgojhfbcgaiaa
open Go.Lib

def leW (x y : Word) : Bool := decide (x ≤ y)
theorem leW_trans (a b c : Word) (h1 : leW a b = true) (h2 : leW b c = true) : leW a c = true := by
  unfold leW at *; simp only [decide_eq_true_eq] at *; exact List.le_trans h1 h2
theorem leW_total (a b : Word) : (leW a b || leW b a) = true := by
  unfold leW; simp only [Bool.or_eq_true, decide_eq_true_eq]; exact List.le_total a b
theorem leW_antisymm {a b : Word} (h1 : leW a b = true) (h2 : leW b a = true) : a = b := by
  unfold leW at *; simp only [decide_eq_true_eq] at *; exact List.le_antisymm h1 h2
section
variable {zs : List Word}
theorem compact_mem (zs : List Word) (s : Word) : s ∈ compact zs ↔ s ∈ zs := by
  unfold compact compactUpTo
  rw [List.mem_map]
  constructor
  · rintro ⟨j, hj, rfl⟩
    rw [List.mem_filter, List.mem_range] at hj
    rw [getElem!_pos _ j (by simpa using hj.1)]
    simp
  · intro hs
    obtain ⟨j, hj, rfl⟩ := List.getElem_of_mem hs
    induction j with
    | zero => exact ⟨0, by rw [List.mem_filter, List.mem_range]; exact ⟨hj, by simp [keeps]⟩, by rw [getElem!_pos _ 0 (by simpa using hj)]; simp⟩
    | succ j ih =>
      by_cases hk : keeps zs.toArray (j + 1) = true
      · exact ⟨j + 1, by rw [List.mem_filter, List.mem_range]; exact ⟨hj, hk⟩, by rw [getElem!_pos _ _ (by simpa using hj)]; simp⟩
      · have he : zs[j + 1] = zs[j] := by
          simp only [keeps] at hk
          rw [getElem!_pos _ (j + 1) (by simpa using hj), getElem!_pos _ (j + 1 - 1) (by simp; omega)] at hk
          simpa using hk
        rw [he]
        exact ih (by omega) (List.getElem_mem _)
theorem compact_sorted (h : zs.Pairwise fun x y => leW x y = true) : (compact zs).Pairwise fun x y => leW x y = true ∧ x ≠ y := by
  unfold compact compactUpTo
  rw [List.pairwise_map, List.pairwise_filter]
  have hp := List.pairwise_iff_getElem.1 h
  have hle : ∀ i j, i ≤ j → (hj : j < zs.length) → leW (zs.toArray[i]!) (zs.toArray[j]!) = true := fun i j hij hj => by
    rw [getElem!_pos _ i (by simp; omega), getElem!_pos _ j (by simpa using hj)]
    rcases Nat.lt_or_eq_of_le hij with h' | h'
    · simpa using hp i j (by omega) hj h'
    · subst h'; have := leW_total zs[i] zs[i]; simpa using this
  refine (List.Pairwise.imp_of_mem ?_ (List.pairwise_lt_range (n := zs.length)))
  intro i j _ hj hij _ hk
  rw [List.mem_range] at hj
  refine ⟨hle i j (by omega) hj, fun e => ?_⟩
  have h1 := hle i (j - 1) (by omega) (by omega)
  have h2 := hle (j - 1) j (by omega) hj
  rw [← e] at h2
  have h3 := leW_antisymm h1 h2
  simp only [keeps] at hk
  rw [← e, h3] at hk
  simp at hk
  omega
end
/-- The words of a list, each once, sorted. -/
theorem names_eq {N ws : List Word} (hn : N.Nodup) (hm : ∀ s, s ∈ N ↔ s ∈ ws) : N.mergeSort leW = compact (ws.mergeSort leW) := by
  have hc := compact_sorted (List.pairwise_mergeSort leW_trans leW_total ws)
  have hp1 := List.mergeSort_perm N leW
  have hp2 := List.mergeSort_perm ws leW
  have hd : (compact (ws.mergeSort leW)).Nodup := hc.imp fun h => h.2
  refine List.Perm.eq_of_pairwise (le := fun x y => leW x y) (fun a b _ _ => leW_antisymm) (List.pairwise_mergeSort leW_trans leW_total N) (hc.imp fun h => h.1) ?_
  refine hp1.trans ((List.perm_ext_iff_of_nodup hn hd).2 fun s => ?_)
  rw [compact_mem, hp2.mem_iff, hm]
end Go.Proofs.Ythcgojhfbcgaiaa
