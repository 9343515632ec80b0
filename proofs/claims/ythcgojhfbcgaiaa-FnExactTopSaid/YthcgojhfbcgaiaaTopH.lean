/- Rows of words in memory: sorted, cloned, compacted, compared. Conditions: the rows lie in memory. -/
import Derived.Test.YthcgojhfbcgaiaaTopN
import Derived.Test.YthcgojhfbcgaiaaShelf
import Derived.Test.YthcgojhfbcgaiaaTopG
namespace Go.Proofs.Ythcgojhfbcgaiaa
open Go.RowKit Go.Sort Go.Proofs

/-- A row of words, from block base on. -/
def HRow (w : World) (base : Nat) (oa : Option Addr) (L : List Word) : Prop := L = [] ∨ ∃ g, oa = some ⟨g, 0, none⟩ ∧ base ≤ g ∧ g < w.heap.size ∧ Holds encStr w g 0 L.toArray
theorem encStr_strV (s : Word) : encStr s = strV s := rfl
section
variable {w w' : World} {base base' : Nat} {oa oa' : Option Addr} {L L' : List Word}
theorem HRow.cell (h : HRow w base oa L) (i : Nat) (hi : i < L.length) : ∃ g, oa = some ⟨g, 0, none⟩ ∧ w.cell? ⟨g, i, none⟩ = some (strV L[i]) ∧ g < w.heap.size := by
  rcases h with rfl | ⟨g, h1, h2, h3, h4⟩
  · simp at hi
  · refine ⟨g, h1, ?_, h3⟩
    have := (h4 i (by simpa using hi)).1
    rw [Nat.zero_add, getElem!_pos _ i (by simpa using hi)] at this
    simpa [encStr_strV] using this
theorem HRow.below (h : HRow w base oa L) (hb : RowKit.Below w.heap.size w w') : HRow w' base oa L := by
  rcases h with rfl | ⟨g, h1, h2, h3, h4⟩
  · exact .inl rfl
  · exact .inr ⟨g, h1, h2, Nat.lt_of_lt_of_le h3 hb.size, fun j hj => ⟨(hb.cell (p := ⟨g, 0 + j, none⟩) h3).trans (h4 j hj).1, (hb.frozen (p := ⟨g, 0 + j, none⟩) h3).trans (h4 j hj).2⟩⟩
theorem HRow.low (h : HRow w base oa L) (hb : base' ≤ base) : HRow w base' oa L := by
  rcases h with rfl | ⟨g, h1, h2, h3, h4⟩
  · exact .inl rfl
  · exact .inr ⟨g, h1, by omega, h3, h4⟩
theorem own_hrow {n c : Nat} (h : w.ownsRow base 9 1 (.slice oa n c) n (L.map strV)) (hn : L.length = n) : HRow w base oa L ∧ n ≤ c := by
  rcases h.2 with ⟨h1, h2⟩ | ⟨g, cap, cur, h1, h2, h3, h4, h5, h6, h7⟩
  · refine ⟨.inl (List.eq_nil_of_length_eq_zero (by omega)), by omega⟩
  · obtain ⟨rfl, _, rfl⟩ : oa = some ⟨g, 0, none⟩ ∧ True ∧ c = cap := by injection h1 with a1 a2 a3; exact ⟨a1, trivial, a3⟩
    refine ⟨.inr ⟨g, rfl, h2, lt_of_at h3, fun j hj => ?_⟩, h4⟩
    have hj' : j < L.length := by simpa using hj
    rw [Nat.zero_add]
    refine ⟨cell_of h3 ?_, free_of h3⟩
    rw [Nat.mul_one] at h7
    have := congrArg (fun l => l[j]?) h7
    simp only [List.getElem?_take_of_lt (show j < n by omega), List.getElem?_map, List.getElem?_eq_getElem hj', Option.map_some, Array.getElem?_toList] at this
    rw [this, getElem!_pos _ j hj]
    simp [encStr_strV]
theorem holds_prefix {g : Nat} {A B : List Word} (h : Holds encStr w g 0 (A ++ B).toArray) : Holds encStr w g 0 A.toArray := fun j hj => by
  have hj' : j < A.length := by simpa using hj
  have := h j (by simp; omega)
  rw [getElem!_pos _ j (by simp; omega)] at this
  rw [getElem!_pos _ j hj]
  simpa [List.getElem_append_left hj'] using this
theorem below_putRow {g base : Nat} (hg : base ≤ g) (d : Array Word) (n : Nat) (w : World) : RowKit.Below base w (putRow encStr (Sort.ahead w n) g 0 d) := by
  refine ⟨rfl, rfl, rfl, ?_, fun k hk => ?_⟩
  · simp [putRow, mapBlock, Sort.ahead]
  · simp only [putRow, mapBlock, Array.getElem?_modify]; rw [if_neg (by omega)]; rfl
theorem size_putRow (g : Nat) (d : Array Word) (n : Nat) (w : World) : (putRow encStr (Sort.ahead w n) g 0 d).heap.size = w.heap.size := by simp [putRow, mapBlock, Sort.ahead]
theorem belowW_grow {base : Nat} {a w : World} (h : RowKit.Below base a w) (hb : base ≤ w.heap.size) (os : Array Obj) : RowKit.Below base a (grow w os) := by
  refine ⟨h.os, h.tape, h.output, ?_, fun k hk => ?_⟩
  · have := h.size; show _ ≤ (w.heap ++ os).size; simp; omega
  · rw [← h.block k hk]; show (w.heap ++ os)[k]? = _; rw [Array.getElem?_append_left (by omega)]
/-- slices.Sort. -/
theorem sortW_calls {c : Nat} (h : HRow w base oa L) (hs : base ≤ w.heap.size) (hl : L.length ≤ 1000) :
    Calls Try.prog 33 #[.slice oa L.length c] w fun e w' => e = .returned (.tuple #[]) ∧ Hid (HRow w' base oa (L.mergeSort leW) ∧ RowKit.Below base w w') := by
  rcases h with rfl | ⟨g, rfl, h2, h3, h4⟩
  · exact (Try.slices_Sort_string_none oa c w).mono fun e w' ⟨a, b⟩ => ⟨a, Lib.hid ⟨.inl (by simp), by rw [b]; exact RowKit.Below.refl _ _⟩⟩
  · refine (Try.slices_Sort_string g 0 c L w h4 h3 (by omega)).mono fun e w' ⟨a, n, os, b⟩ => ⟨a, Lib.hid ?_⟩
    subst b
    have hlen : (L.mergeSort leW).length = L.length := (List.mergeSort_perm L leW).length_eq
    refine ⟨.inr ⟨g, rfl, h2, ?_, ?_⟩, ?_⟩
    · simp [grow, putRow, mapBlock, Sort.ahead]; omega
    · exact holds_grow encStr _ os g 0 _ (by simp [putRow, mapBlock]; exact h3) (holds_putRow encStr (Sort.ahead w n) g 0 L.toArray _ h4 (by simp))
    · exact belowW_grow (below_putRow h2 _ n w) (by rw [size_putRow]; exact hs) os
/-- slices.Compact. -/
theorem compactW_calls {c : Nat} (h : HRow w base oa L) (hl : L.length ≤ 1000) (hc : L.length ≤ c) :
    Calls Try.prog 35 #[.slice oa L.length c] w fun e w' => e = .returned (.slice oa (Lib.compact L).length c) ∧ Hid (HRow w' base oa (Lib.compact L) ∧ RowKit.Below base w w') := by
  rcases h with rfl | ⟨g, rfl, h2, h3, h4⟩
  · exact (Try.slices_Compact_string_empty oa c w).mono fun e w' ⟨a, b⟩ => ⟨a, Lib.hid ⟨.inl rfl, by rw [b]; exact RowKit.Below.refl _ _⟩⟩
  · refine (Try.slices_Compact_string g 0 c L w h4 (by omega) hc).mono fun e w' ⟨a, n, b⟩ => ⟨a, Lib.hid ?_⟩
    subst b
    have hle := Lib.compact_length_le L
    refine ⟨.inr ⟨g, rfl, h2, by rw [size_putRow]; exact h3, holds_prefix (holds_putRow encStr (Sort.ahead w n) g 0 L.toArray _ h4 (by simp; omega))⟩, below_putRow h2 _ n w⟩
def bytesOf (s : Word) : ByteArray := ⟨s.toArray⟩
theorem bytesOf_getD (L : List Word) (j : Nat) (hj : j < L.length) : (L.map bytesOf).getD j ByteArray.empty = bytesOf L[j] := by
  simp [List.getD, List.getElem?_eq_getElem hj]
/-- slices.Clone. -/
theorem cloneW_calls {c : Nat} (h : HRow w base oa L) (hl : L.length ≤ 1000) :
    Calls Try.prog 34 #[.slice oa L.length c] w fun e w' => ∃ oa' c', e = .returned (.slice oa' L.length c') ∧ Hid (HRow w' w.heap.size oa' L ∧ L.length ≤ c' ∧ RowKit.Below w.heap.size w w') := by
  have hcase : ∀ (v' : Value) (w' : World), w'.ownsRow w.heap.size 9 1 v' L.length (L.map strV) → ∃ oa' c', v' = .slice oa' L.length c' := fun v' w' ho => by
    rcases ho.2 with ⟨h1, h2⟩ | ⟨g, cap, cur, h1, _⟩
    · exact ⟨none, 0, by rw [h1, h2]⟩
    · exact ⟨_, _, h1⟩
  rcases h with rfl | ⟨g, rfl, h2, h3, h4⟩
  · cases oa with
    | none => exact (Try.slices_Clone_string_nil 0 c w).mono fun e w' ⟨a, b⟩ => ⟨none, 0, a, Lib.hid ⟨.inl rfl, Nat.le_refl _, by rw [b]; exact RowKit.Below.refl _ _⟩⟩
    | some a =>
      refine (Try.slices_Clone_string_zero a c w).mono fun e w' ⟨v', a, b, _, d⟩ => ?_
      obtain ⟨oa', c', rfl⟩ := hcase v' w' b
      exact ⟨oa', c', a, Lib.hid ⟨.inl rfl, Nat.zero_le _, d⟩⟩
  · refine (Try.slices_Clone_string g 0 L.length c (L.map bytesOf) w (by simp) (by omega) (fun j hj => ?_)).mono fun e w' ⟨v', a, b, _, d⟩ => ?_
    · have hj' : j < L.length := by simpa using hj
      rw [bytesOf_getD L j hj', (h4 j (by simpa using hj')).1, getElem!_pos _ j (by simpa using hj')]
      simp [encStr_strV, bytesOf]
    · have b' : w'.ownsRow w.heap.size 9 1 v' L.length (L.map strV) := by
        rw [List.take_of_length_le (by simp), List.map_map] at b; exact b
      obtain ⟨oa', c', rfl⟩ := hcase v' w' b'
      obtain ⟨x1, x2⟩ := own_hrow b' rfl
      exact ⟨oa', c', a, Lib.hid ⟨x1, x2, d⟩⟩
/-- slices.Equal. -/
theorem equalW_calls {c c' : Nat} (h : HRow w base oa L) (h' : HRow w base' oa' L) (hl : L.length ≤ 1000) :
    Calls Try.prog 36 #[.slice oa L.length c, .slice oa' L.length c'] w fun e w' => e = .returned (.bool true) ∧ ∃ d, w' = w.drewN d := by
  rcases h with rfl | ⟨g, rfl, h2, h3, h4⟩
  · exact (Try.slices_Equal_string_empty oa oa' c 0 c' w (by omega)).mono fun e w' ⟨a, b⟩ => ⟨a, 0, b⟩
  · rcases h' with rfl | ⟨g', rfl, q2, q3, q4⟩
    · exact (Try.slices_Equal_string_empty _ oa' c 0 c' w (by omega)).mono fun e w' ⟨a, b⟩ => ⟨a, 0, b⟩
    · have hc : ∀ {g : Nat}, Holds encStr w g 0 L.toArray → ∀ j, j < (L.map bytesOf).length → w.cell? ⟨g, 0 + j, none⟩ = some (.string ((L.map bytesOf).getD j ByteArray.empty)) := fun h4 j hj => by
        have hj' : j < L.length := by simpa using hj
        rw [bytesOf_getD L j hj', (h4 j (by simpa using hj')).1, getElem!_pos _ j (by simpa using hj')]
        simp [encStr_strV, bytesOf]
      refine (Try.slices_Equal_string g 0 L.length c g' 0 L.length c' (L.map bytesOf) (L.map bytesOf) w (by simp) (by simp) (by omega) (by omega) (hc h4) (hc q4)).mono fun e w' ⟨a, b⟩ => ⟨by rw [a]; simp, b⟩
end
end Go.Proofs.Ythcgojhfbcgaiaa
