/- The cumulative sums, place by place; the digest as Quantile reads it. Plain lemmas on worlds. -/
import Derived.Test.YthcgojhfbcgaiaaGreatDoorMBV

namespace Go.Proofs.YthcgojhfbcgaiaaGreatDoor
open Go.RowKit Go.Sort Go.Proofs Ieee

/-- The sum at a place, in sixteenths. -/
def cv (P : List Cen) (k : Nat) : Nat := if k < P.length then 16 * wt (P.take k) + 8 * P[k]!.w else 16 * wt P
theorem cumPre_at : ∀ (L : List Cen) (s k : Nat), k < L.length → (cumPre s L)[k]? = some (FX ((16 * (s + wt (L.take k)) + 8 * L[k]!.w : Nat) : Int))
  | [], s, k, h => by simp at h
  | c :: r, s, 0, h => by simp [cumPre, wt_nil]
  | c :: r, s, k + 1, h => by
    have ih := cumPre_at r (s + c.w) k (by simpa using h)
    simp only [cumPre, List.getElem?_cons_succ, List.take_succ_cons, wt_cons, ih]
    rw [show s + c.w + wt (List.take k r) = s + (c.w + wt (List.take k r)) by omega]
    simp
theorem cum_at {P : List Cen} (hW : wt P < 2 ^ 40) (k : Nat) (hk : k ≤ P.length) : (cumX P)[k]? = some (FX ((cv P k : Nat) : Int)) := by
  unfold cumX cv
  rcases Nat.lt_or_ge k P.length with h | h
  · rw [if_pos h, List.getElem?_append_left (by rw [cumPre_len]; exact h), cumPre_at P 0 k h, Nat.zero_add]
  · obtain rfl : k = P.length := by omega
    rw [if_neg (by omega), List.getElem?_append_right (by rw [cumPre_len]; exact Nat.le_refl _), cumPre_len, Nat.sub_self]
    show some (floatOfInt .f64 ((wt P : Nat) : Int)) = _
    rw [FI_FX (wt P) (by omega)]
theorem wt_take_le (P : List Cen) (k : Nat) : wt (P.take k) ≤ wt P := by
  have h2 := wt_append (P.take k) (P.drop k)
  rw [List.take_append_drop] at h2
  omega
theorem wt_take_succ {P : List Cen} {k : Nat} (h : k < P.length) : wt (P.take (k + 1)) = wt (P.take k) + P[k]!.w := by
  rw [List.take_succ_eq_append_getElem h, wt_append, wt_cons, wt_nil, Nat.add_zero, getElem!_pos P k h]
theorem cv_le (P : List Cen) (k : Nat) : cv P k ≤ 16 * wt P := by
  unfold cv
  split
  · rename_i h
    have h1 := wt_take_succ h
    have := wt_take_le P (k + 1)
    omega
  · exact Nat.le_refl _
theorem cv_step {P : List Cen} {k : Nat} (hw : ∀ x ∈ P, 1 ≤ x.w) (hk : k + 1 < P.length) : cv P k + 8 ≤ cv P (k + 1) := by
  unfold cv
  rw [if_pos (by omega), if_pos hk, wt_take_succ (by omega)]
  have h1 := hw P[k + 1] (List.getElem_mem hk)
  rw [getElem!_pos P (k + 1) hk]
  omega
theorem cv_zero {P : List Cen} (h : 0 < P.length) : cv P 0 = 8 * P[0]!.w := by
  unfold cv
  rw [if_pos h]
  simp [wt_nil]
theorem cv_last (P : List Cen) : cv P P.length = 16 * wt P := by unfold cv; rw [if_neg (by omega)]

theorem div_le_one {x y : Nat} (hxy : x ≤ y) (hy : y < 2047 * 2 ^ 52) (h0 : y ≠ 0) : ∃ r, double.div x y = some r ∧ r ≤ FI 1 := by
  obtain ⟨R, r1, r2, _⟩ := div_spec (show x < 2047 * 2 ^ 52 by omega) hy h0
  have hR : R ≤ FI 1 := r2 _ (by
    rw [rungVal_FI 1 (by omega), Nat.one_mul, Nat.mul_comm]
    exact Nat.mul_le_mul_left _ (rungVal_mono hxy))
  have := FI_in 1 (by omega)
  rw [Nat.min_eq_left (by omega)] at r1
  exact ⟨R, r1, hR⟩
theorem FX_le {a b : Nat} (h : a ≤ b) (hb : b < 2 ^ 53) : FX (a : Int) ≤ FX (b : Int) := by
  rw [FX_FP, FX_FP]
  exact (FP_le (by omega) (by omega) hb (by omega)).2 (Nat.mul_le_mul_right _ h)

/-- The digest as Quantile reads it, once it is merged. -/
structure QF (w : World) (TB g bP cP kC cC : Nat) (P : List Cen) (mn mx : Nat) : Prop where
  t : w.cell? ⟨TB, 0, none⟩ = some (.pointer (some ⟨g, 0, none⟩))
  p : w.cell? ⟨g, 3, none⟩ = some (.slice (some ⟨bP, 0, none⟩) P.length cP)
  c : w.cell? ⟨g, 5, none⟩ = some (.slice (some ⟨kC, 0, none⟩) (P.length + 1) cC)
  pw : w.cell? ⟨g, 6, none⟩ = some (.float .f64 (FI (wt P)))
  mn : w.cell? ⟨g, 8, none⟩ = some (.float .f64 mn)
  mx : w.cell? ⟨g, 9, none⟩ = some (.float .f64 mx)
  pm : ∀ i, i < P.length → w.cell? ⟨bP, i * 2, none⟩ = some (.float .f64 P[i]!.m) ∧ w.cell? ⟨bP, i * 2 + 1, none⟩ = some (.float .f64 (FI P[i]!.w))
  cu : ∀ k, k ≤ P.length → w.cell? ⟨kC, k, none⟩ = some (.float .f64 (FX ((cv P k : Nat) : Int)))
section
variable {w w' : World} {TB g bP cP kC cC : Nat} {P : List Cen} {mn mx : Nat}
theorem lt_of_cell {a : Addr} {v : Value} (h : w.cell? a = some v) : a.block < w.heap.size := World.block_lt_of_cell? w _ h
theorem QF.below (h : QF w TB g bP cP kC cC P mn mx) (hb : RowKit.Below w.heap.size w w') : QF w' TB g bP cP kC cC P mn mx :=
  ⟨(hb.cell (p := ⟨TB, 0, none⟩) (lt_of_cell h.t)).trans h.t, (hb.cell (p := ⟨g, 3, none⟩) (lt_of_cell h.p)).trans h.p, (hb.cell (p := ⟨g, 5, none⟩) (lt_of_cell h.c)).trans h.c, (hb.cell (p := ⟨g, 6, none⟩) (lt_of_cell h.pw)).trans h.pw,
    (hb.cell (p := ⟨g, 8, none⟩) (lt_of_cell h.mn)).trans h.mn, (hb.cell (p := ⟨g, 9, none⟩) (lt_of_cell h.mx)).trans h.mx,
    fun i hi => ⟨(hb.cell (p := ⟨bP, i * 2, none⟩) (lt_of_cell (h.pm i hi).1)).trans (h.pm i hi).1, (hb.cell (p := ⟨bP, i * 2 + 1, none⟩) (lt_of_cell (h.pm i hi).2)).trans (h.pm i hi).2⟩,
    fun k hk => (hb.cell (p := ⟨kC, k, none⟩) (lt_of_cell (h.cu k hk))).trans (h.cu k hk)⟩
theorem QF.drewN (h : QF w TB g bP cP kC cC P mn mx) (d : Nat) : QF (w.drewN d) TB g bP cP kC cC P mn mx := ⟨h.t, h.p, h.c, h.pw, h.mn, h.mx, h.pm, h.cu⟩
end
theorem PM.qf {S : List Nat} {w0 w : World} {base g c TB lo hi : Nat} {l : Lo} {P L : List Cen} {X : List Nat} {mn mx : Nat} (h : PM S w0 w base g c l P [] X (wt P) 0 mn mx) (hI : Inv lo hi P [] X mn mx L) (hL : L ≠ []) (hW : wt P < 2 ^ 40)
    (ht : w.cell? ⟨TB, 0, none⟩ = some (.pointer (some ⟨g, 0, none⟩))) : QF w TB g l.bP l.cP l.kC l.cC P mn mx ∧ 0 < P.length ∧ lo ≤ mn ∧ mn ≤ P[0]!.m ∧ P[P.length - 1]!.m ≤ mx ∧ mx ≤ hi := by
  have hne : P ≠ [] := by have := hI.non hL; simpa using this
  rcases hI.mm with h0 | ⟨_, rfl, m1, m2, m3, m4⟩
  · exact absurd h0.1 hne
  · have hlen : (cumX P).length = P.length + 1 := by simp [cumX, cumPre_len]
    rcases h.rC with h1 | ⟨hC, hF, hn, _⟩
    · have := h1.2.2.2.1
      rw [this] at hlen
      simp at hlen
    · have hcell := cell_of h.hd (i := 5) rfl
      rw [hC, hn, hlen] at hcell
      refine ⟨⟨ht, cell_of h.hd rfl, hcell, cell_of h.hd rfl, cell_of h.hd rfl, cell_of h.hd rfl, fun i hi => ?_, fun k hk => ?_⟩, List.length_pos_iff.2 hne, m1, m2, m3, m4⟩
      · rw [getElem!_pos P i hi]
        exact h.rP.cell i hi
      · have := hF.cell k (by omega)
        rw [this]
        have e := cum_at hW k hk
        rw [List.getElem?_eq_getElem (by omega)] at e
        injection e with e
        rw [e]
end Go.Proofs.YthcgojhfbcgaiaaGreatDoor
