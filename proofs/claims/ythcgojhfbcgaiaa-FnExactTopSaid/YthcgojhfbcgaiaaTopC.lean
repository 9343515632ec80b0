/- sort.Sort(sort.Reverse(sm)) of at most twelve: a permutation. Conditions: the row lies in memory. -/
import Derived.Test.YthcgojhfbcgaiaaTopB
import Derived.Test.YthcgojhfbcgaiaaShelf
namespace Go.Proofs.Ythcgojhfbcgaiaa
open Go.RowKit Go.Maps Go.Proofs

def ptrV (b : Nat) : Value := .pointer (some ⟨b, 0, none⟩)
/-- The row under sort: r the reverser, g the row's block, L the elements' blocks. -/
structure Srt (w0 w : World) (Q r g cap : Nat) (L : List Nat) : Prop where
  below : RowKit.Below Q w0 w
  q : Q ≤ r ∧ Q ≤ g ∧ Q ≤ w.heap.size
  hr : w.heap[r]? = some (.cells #[.iface 68 (.slice (some ⟨g, 0, none⟩) L.length cap)] 123)
  row : ∃ cur, w.heap[g]? = some (.cells cur 70) ∧ cur.size = cap ∧ L.length ≤ cap ∧ cur.toList.take L.length = L.map ptrV
  els : ∀ b ∈ L, ∃ s c, ElAt w b s c
theorem tR_E : (123 : Nat) ≠ 70 := by decide
theorem tP_E : (70 : Nat) ≠ 72 := by decide
section
variable {w0 w : World} {Q r g cap : Nat} {L : List Nat}
theorem Srt.drewN (h : Srt w0 w Q r g cap L) (d : Nat) : Srt w0 (w.drewN d) Q r g cap L := ⟨below_drewN h.below d, h.q, h.hr, h.row, h.els⟩
theorem Srt.alloc (h : Srt w0 w Q r g cap L) (o : Obj) : Srt w0 (w.alloc o) Q r g cap L := by
  obtain ⟨cur, h1, h2⟩ := h.row
  refine ⟨h.below.alloc h.q.2.2 o, ⟨h.q.1, h.q.2.1, by have := h.q.2.2; simp; omega⟩, at_alloc _ h.hr, ⟨cur, at_alloc _ h1, h2⟩, fun b hb => ?_⟩
  obtain ⟨s, c, e⟩ := h.els b hb
  exact ⟨s, c, at_alloc _ e⟩
theorem Srt.cell (h : Srt w0 w Q r g cap L) (i : Nat) (hi : i < L.length) : w.cell? ⟨g, i, none⟩ = some (ptrV L[i]) ∧ w.frozen? ⟨g, i, none⟩ = false := by
  obtain ⟨cur, h1, h2, h3, h4⟩ := h.row
  refine ⟨cell_of h1 ?_, free_of h1⟩
  have := congrArg (fun l => l[i]?) h4
  simp only [List.getElem?_take_of_lt hi, List.getElem?_map, List.getElem?_eq_getElem hi, Option.map_some, Array.getElem?_toList] at this
  exact this
theorem Srt.swap (h : Srt w0 w Q r g cap L) (i j : Nat) (hi : i < L.length) (hj : j < L.length) :
    ∃ L' : List Nat, L'.Perm L ∧ Srt w0 ((w.setCell ⟨g, i, none⟩ (ptrV L[j])).setCell ⟨g, j, none⟩ (ptrV L[i])) Q r g cap L' := by
  obtain ⟨cur, h1, h2, h3, h4⟩ := h.row
  refine ⟨(L.set i L[j]).set j L[i], List.set_set_perm hi hj, ?_⟩
  have hgr : g ≠ r := (ne_ty h.hr h1 tR_E).symm
  have hl : ((L.set i L[j]).set j L[i]).length = L.length := by simp
  refine ⟨(h.below.setCell (p := ⟨g, i, none⟩) h.q.2.1 _).setCell (p := ⟨g, j, none⟩) h.q.2.1 _, ⟨h.q.1, h.q.2.1, by simp [World.setCell]; exact h.q.2.2⟩, ?_, ⟨(cur.setIfInBounds i (ptrV L[j])).setIfInBounds j (ptrV L[i]), at_set (at_set h1 i _) j _, by simp [h2], by rw [hl]; exact h3, ?_⟩, fun b hb => ?_⟩
  · rw [hl]; exact at_set_other _ hgr (at_set_other _ hgr h.hr)
  · rw [hl]; simp [List.take_set, h4, List.map_set]
  · have hb' : b ∈ L := (List.set_set_perm hi hj).mem_iff.1 hb
    obtain ⟨s, c, e⟩ := h.els b hb'
    have hne : g ≠ b := ne_ty h1 e tP_E
    exact ⟨s, c, at_set_other _ hne (at_set_other _ hne e)⟩
end

set_option maxRecDepth 100000 in
theorem smpLen_calls (oa : Option Addr) (n c : Nat) (w : World) : Calls Try.prog 157 #[.slice oa n c] w fun e w' => e = .returned (.int .i64 n) ∧ w = w' := by
  go_enter Try.func157, Try.ntmps157
  go_wp2_with fail
  go_ret
  exact ⟨rfl, rfl⟩

set_option maxRecDepth 100000 in
theorem smpLess_calls {w0 w : World} {Q r g cap : Nat} {L : List Nat} (h : Srt w0 w Q r g cap L) {i j : Nat} (hi : i < L.length) (hj : j < L.length) (hl : L.length ≤ 12) :
    Calls Try.prog 158 #[.slice (some ⟨g, 0, none⟩) L.length cap, .int .i64 i, .int .i64 j] w fun e w' => (∃ b, e = .returned (.bool b)) ∧ ∃ d, w' = w.drewN d := by
  obtain ⟨s1, k1, e1⟩ := h.els L[i] (List.getElem_mem hi)
  obtain ⟨s2, k2, e2⟩ := h.els L[j] (List.getElem_mem hj)
  have c1 := (h.cell i hi).1
  have c2 := (h.cell j hj).1
  unfold ptrV at c1 c2
  have x1 := cell_of e1 (i := 1) rfl
  have x2 := cell_of e2 (i := 1) rfl
  generalize L[i] = bi at *
  generalize L[j] = bj at *
  generalize L.length = n at *
  have hi' : (i : Int) < (n : Int) := by omega
  have hj' : (j : Int) < (n : Int) := by omega
  have hn' : (n : Int) ≤ 12 := by omega
  have hi0 : (0 : Int) ≤ (i : Int) := by omega
  have hj0 : (0 : Int) ≤ (j : Int) := by omega
  clear h e1 e2 hl
  go_enter Try.func158, Try.ntmps158
  go_wp2_with fail
  go_quiet (fail)
  go_wp2_with fail
  go_ret
  exact ⟨⟨_, rfl⟩, _, rfl⟩

set_option maxHeartbeats 1000000 in
set_option maxRecDepth 100000 in
theorem smpSwap_ne {g n c i j : Nat} (hi : i < n) (hj : j < n) (hij : i ≠ j) {x y : Nat} {w : World}
    (hx0 : w.cell? ⟨g, i, none⟩ = some (.pointer (some ⟨x, 0, none⟩))) (hy0 : w.cell? ⟨g, j, none⟩ = some (.pointer (some ⟨y, 0, none⟩)))
    (fx0 : w.frozen? ⟨g, i, none⟩ = false) (fy0 : w.frozen? ⟨g, j, none⟩ = false) :
    Calls Try.prog 159 #[.slice (some ⟨g, 0, none⟩) n c, .int .i64 i, .int .i64 j] w fun e w' => e = .returned (.tuple #[]) ∧
      ∃ d, w' = ((w.setCell ⟨g, i, none⟩ (.pointer (some ⟨y, 0, none⟩))).setCell ⟨g, j, none⟩ (.pointer (some ⟨x, 0, none⟩))).drewN d := by
  go_enter Try.func159, Try.ntmps159
  go_wp2_with fail
  go_region
  go_wp2
  go_end0
  exact ⟨rfl, _, rfl⟩
end Go.Proofs.Ythcgojhfbcgaiaa
