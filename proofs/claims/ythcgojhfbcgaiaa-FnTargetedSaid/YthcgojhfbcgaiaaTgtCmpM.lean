/- The stream's compress, over its steps. Plain lemmas on worlds and numbers. -/
import Derived.Test.YthcgojhfbcgaiaaTgtMS
namespace Go.Proofs.Ythcgojhfbcgaiaa
open Go.RowKit Go.Sort Go.Proofs
open Ckms (Sm tot)

/-- One sample taken out: the next one, turned, and all behind it go one place down. -/
theorem BufIs.removed {cur : Array Value} {A Z : List SmpF} {c x : SmpF} (h : BufIs cur (A ++ c :: x :: Z)) (x' : SmpF) :
    BufIs (setMany (setMany cur ((A.length + 1) * 3) (encSmp x')) (A.length * 3) (flatS (x' :: Z))) (A ++ x' :: Z) := by
  have hs := h.1
  simp at hs
  have hl : (flatS (x' :: Z)).length = (Z.length + 1) * 3 := by rw [flatS_len]; simp
  refine ⟨by simp [size_setMany]; omega, fun j hj t ht => ?_⟩
  simp at hj
  rw [get_setMany _ _ _ _ (by rw [size_setMany]; omega), get_setMany _ _ _ _ (by omega), hl, encSmp_len]
  rcases Nat.lt_or_ge j A.length with h1 | h1
  · rw [if_neg (by omega), if_neg (by omega), h.2 j (by simp; omega) t ht]
    congr 2
    rw [getElem!_pos (A ++ c :: x :: Z) j (by simp; omega), getElem!_pos (A ++ x' :: Z) j (by simp; omega), List.getElem_append_left h1, List.getElem_append_left h1]
  · rw [if_pos (by omega)]
    obtain ⟨q, rfl⟩ : ∃ q, j = A.length + q := ⟨j - A.length, by omega⟩
    have e := flatS_get (x' :: Z) q (by simp; omega) t ht
    rw [show (A.length + q) * 3 + t - A.length * 3 = q * 3 + t by omega, List.getElem!_eq_getElem?_getD, e]
    simp only [Option.getD_some]
    congr 2
    rw [getElem!_pos (x' :: Z) q (by simp; omega), getElem!_pos (A ++ x' :: Z) (A.length + q) (by simp; omega), List.getElem_append_right (by omega)]
    simp

/-- What lies behind the store at place i + 1: the copy's source. -/
theorem removed_src {cur : Array Value} {A Z : List SmpF} {c x : SmpF} (h : BufIs cur (A ++ c :: x :: Z)) (x' : SmpF) : ∀ t v, (flatS (x' :: Z))[t]? = some v →
    (setMany cur ((A.length + 1) * 3) (encSmp x'))[(A.length + 1) * 3 + t]? = some v := fun t v hv => by
  have hs := h.1
  simp at hs
  have hb : BufIs (setMany cur ((A.length + 1) * 3) (encSmp x')) ((A ++ [c]) ++ (x' :: Z) ++ []) := by
    refine ⟨by simp [size_setMany]; omega, fun j hj t ht => ?_⟩
    simp at hj
    rw [get_setMany _ _ _ _ (by omega), encSmp_len]
    by_cases h1 : j = A.length + 1
    · subst h1
      rw [if_pos (by omega), show (A.length + 1) * 3 + t - (A.length + 1) * 3 = t by omega]
      congr 2
      rw [getElem!_pos _ _ (by simp)]
      simp
    · rw [if_neg (by omega), h.2 j (by simp; omega) t ht]
      congr 2
      rw [getElem!_pos (A ++ c :: x :: Z) j (by simp; omega), getElem!_pos ((A ++ [c]) ++ (x' :: Z) ++ []) j (by simp; omega)]
      rcases Nat.lt_trichotomy j A.length with h2 | h2 | h2
      · simp [h2]
      · subst h2; simp
      · obtain ⟨q, rfl⟩ : ∃ q, j = A.length + 2 + q := ⟨j - (A.length + 2), by omega⟩
        simp [List.getElem_append, show ¬ A.length + 2 + q < A.length by omega, show A.length + 2 + q - A.length = q + 2 by omega]
  have := hb.part t v hv
  simpa using this

/-- The worlds of a removal: the store, the copy, the slice made shorter. -/
def remB (w : World) (g : Nat) (A Z : List SmpF) (x' : SmpF) : World := (w.drew.setCells g ((A.length + 1) * 3) (encSmp x')).drew.setCells g (A.length * 3) (flatS (x' :: Z))
def remW (w : World) (T g cap : Nat) (A Z : List SmpF) (x' : SmpF) : World := (remB w g A Z x').drew.setCell ⟨T, 1, none⟩ (.slice (some ⟨g, 0, none⟩) (A ++ x' :: Z).length cap)
theorem remB_far {w : World} {g X : Nat} {A Z : List SmpF} {x' : SmpF} {o : Obj} (hne : ¬ g = X) (h : w.heap[X]? = some o) : (remB w g A Z x').heap[X]? = some o := by
  unfold remB
  generalize encSmp x' = e
  generalize flatS (x' :: Z) = f
  have h1 : (w.drew.setCells g ((A.length + 1) * 3) e).heap[X]? = some o := at_sets_other hne (w := w.drew) h _ _
  exact at_sets_other hne (w := (w.drew.setCells g ((A.length + 1) * 3) e).drew) h1 _ _
theorem MS.remove {w : World} {base top S T Q QA B k m n g cap : Nat} {so : Bool} {bc : Array Value} {A Z : List SmpF} {c x : SmpF} (h : MS w base top S T Q QA B k m n so bc (.slice (some ⟨g, 0, none⟩) (A ++ c :: x :: Z).length cap) (A ++ c :: x :: Z)) (x' : SmpF) :
    MS (remW w T g cap A Z x') base top S T Q QA B k m n so bc (.slice (some ⟨g, 0, none⟩) (A ++ x' :: Z).length cap) (A ++ x' :: Z) := by
  have hgt : top ≤ g := (h.own.lt g rfl).1
  obtain ⟨l1, l2, l3, l4, l5⟩ := h.lt
  obtain ⟨cur, q2, q3, q4, q5, q6⟩ : ∃ cur, w.heap[g]? = some (.cells cur 88) ∧ (A ++ c :: x :: Z).length ≤ cap ∧ cap ≤ maxLen ∧ cur.size = cap * 3 ∧ BufIs cur (A ++ c :: x :: Z) := by
    rcases own_open h.own with ⟨h0, _⟩ | ⟨g', cap', cur, a1, a2, a3, a4, a5, a6, a7⟩
    · cases h0
    · obtain ⟨rfl, rfl⟩ : g = g' ∧ cap = cap' := by injection a1 with b1 b2 b3; injection b1 with b1; injection b1 with b1; exact ⟨b1, b3⟩
      exact ⟨cur, a3, a4, a5, a6, a7⟩
  have hsB : Strm (remB w g A Z x') base S T Q QA B (FX (k : Int)) 4581421828931458171 m so (floatOfInt .f64 (n : Int)) (.slice (some ⟨g, 0, none⟩) (A ++ c :: x :: Z).length cap) bc :=
    ⟨remB_far (by omega) h.str.hS, remB_far (by omega) h.str.hT, remB_far (by omega) h.str.hQ, remB_far (by omega) h.str.hQA, remB_far (by omega) h.str.hB, h.str.bsize, h.str.lt, h.str.ne⟩
  have c2 : (remB w g A Z x').heap[g]? = some (.cells (setMany (setMany cur ((A.length + 1) * 3) (encSmp x')) (A.length * 3) (flatS (x' :: Z))) 88) := by
    unfold remB
    generalize encSmp x' = e
    generalize flatS (x' :: Z) = f
    have c1 := at_sets (w := w.drew) q2 ((A.length + 1) * 3) e
    exact at_sets (w := (w.drew.setCells g ((A.length + 1) * 3) e).drew) c1 (A.length * 3) f
  have hl : (A ++ x' :: Z).length + 1 = (A ++ c :: x :: Z).length := by simp; omega
  have ho := own_shut (w := remB w g A Z x') (L := A ++ x' :: Z) (top := top) (cap := cap) hgt c2 (by omega) q4 (by rw [size_setMany, size_setMany]; exact q5) (q6.removed x')
  have hsz : top ≤ (remB w g A Z x').heap.size := by
    unfold remB
    generalize encSmp x' = e
    generalize flatS (x' :: Z) = f
    rw [size_setCells]
    have e1 : (w.drew.setCells g ((A.length + 1) * 3) e).drew.heap.size = (w.drew.setCells g ((A.length + 1) * 3) e).heap.size := rfl
    rw [e1, size_setCells]; exact h.sz
  unfold remW
  generalize remB w g A Z x' = wB at hsB ho hsz c2
  have hs2 := (hsB.drewN 1).setT1 (.slice (some ⟨g, 0, none⟩) (A ++ x' :: Z).length cap)
  have ho2 : wB.drew.ownsRow top 88 3 (.slice (some ⟨g, 0, none⟩) (A ++ x' :: Z).length cap) (A ++ x' :: Z).length (flatS (A ++ x' :: Z)) := ho
  have hfar : some (⟨T, 1, none⟩ : Addr).block ≠ (Value.slice (some ⟨g, 0, none⟩) (A ++ x' :: Z).length cap).ownBlock := fun e => by
    have : T = g := by simpa [Value.ownBlock] using e
    omega
  have ho3 := own_set_far ho2 hfar (.slice (some ⟨g, 0, none⟩) (A ++ x' :: Z).length cap)
  exact ⟨hs2, ho3, h.lt, by rw [show (wB.drew.setCell ⟨T, 1, none⟩ (.slice (some ⟨g, 0, none⟩) (A ++ x' :: Z).length cap)).heap.size = wB.heap.size by simp [World.setCell]]; exact hsz, h.bt⟩

/-- A whole number against what the closure allows. -/
theorem gOf_leq (k r n s : Nat) (h1 : 1 ≤ k) (h2 : k ≤ 15) (hr : r ≤ n) (hn : n ≤ 1200) (hs : s < 2 ^ 20) :
    (FloatKind.f64.format.order (floatOfInt .f64 (s : Int)) (gOf k r n) == some .lt || FloatKind.f64.format.order (floatOfInt .f64 (s : Int)) (gOf k r n) == some .eq) = decide (s ≤ Ckms.Fq k r n) := by
  have hG := gOf_spec k r n h1 h2 hr hn
  have hF := Fq_le h1 h2 r n hr hn
  obtain ⟨F, hFe⟩ : ∃ F, F = Ckms.Fq k r n := ⟨_, rfl⟩
  rw [← hFe] at hG hF ⊢
  have e0 : floatOfInt .f64 (s : Int) = FP 0 s := by
    rw [FI_FX s (by omega), FX_FP']
    have a := (FP_le (p := 4) (q := 0) (j := 16 * s) (l := s) (by omega) (by omega) (by omega) (by omega)).2 (by omega)
    have b := (FP_le (p := 0) (q := 4) (j := s) (l := 16 * s) (by omega) (by omega) (by omega) (by omega)).2 (by omega)
    omega
  show (Ieee.double.order _ _ == some .lt || Ieee.double.order _ _ == some .eq) = _
  rw [e0, order_pos (FP_lt (by omega) (by omega)) (by omega)]
  by_cases h : s ≤ F
  · rw [decide_eq_true h]
    have a := (FP_le (p := 0) (q := 0) (j := s) (l := F) (by omega) (by omega) (by omega) (by omega)).2 (by omega)
    rcases Nat.lt_or_eq_of_le (Nat.le_trans a hG.2.1) with h3 | h3
    · rw [Nat.compare_eq_lt.2 h3]; rfl
    · rw [Nat.compare_eq_eq.2 h3]; rfl
  · rw [decide_eq_false h]
    have a : ¬ FP 0 s ≤ FP 20 (2 ^ 20 * (F + 1) - 1) := fun h' => by
      have := (FP_le (p := 0) (q := 20) (j := s) (l := 2 ^ 20 * (F + 1) - 1) (by omega) (by omega) (by omega) (by omega)).1 h'
      omega
    rw [Nat.compare_eq_gt.2 (by omega)]; rfl
end Go.Proofs.Ythcgojhfbcgaiaa
