/- Rows of centroids in memory. Plain lemmas on worlds. The digest in memory; updateCumulative. Conditions: the digest and its rows lie in memory. -/
import Derived.Deep.AppendLies
import Derived.Test.YthcgojhfbcgaiaaGreatDoorMAT
import Derived.Test.YthcgojhfbcgaiaaGreatDoorMAL

namespace Go.Proofs.YthcgojhfbcgaiaaGreatDoor
open Go.RowKit Go.Sort Go.Proofs

def flatC (L : List Cen) : List Value := L.flatMap encC
theorem flatC_nil : flatC [] = [] := rfl
theorem flatC_cons (c : Cen) (L : List Cen) : flatC (c :: L) = .float .f64 c.m :: .float .f64 (FI c.w) :: flatC L := rfl
theorem flatC_len (L : List Cen) : (flatC L).length = L.length * 2 := by
  induction L with
  | nil => rfl
  | cons x L ih => rw [flatC_cons]; simp only [List.length_cons, ih]; omega
theorem flatC_append (L M : List Cen) : flatC (L ++ M) = flatC L ++ flatC M := by simp [flatC]
theorem flatC_one (c : Cen) : flatC [c] = [.float .f64 c.m, .float .f64 (FI c.w)] := rfl
theorem flatC_at : ∀ (L : List Cen) (i : Nat) (hi : i < L.length), (flatC L)[i * 2]? = some (.float .f64 L[i].m) ∧ (flatC L)[i * 2 + 1]? = some (.float .f64 (FI L[i].w))
  | x :: L, 0, _ => ⟨rfl, rfl⟩
  | x :: L, i + 1, hi => by
    have h := flatC_at L i (by simpa using hi)
    rw [flatC_cons, show (i + 1) * 2 = i * 2 + 1 + 1 by omega]
    simpa using h
theorem flatC_set : ∀ (L : List Cen) (i : Nat) (_ : i < L.length) (c : Cen), ((flatC L).set (i * 2) (.float .f64 c.m)).set (i * 2 + 1) (.float .f64 (FI c.w)) = flatC (L.set i c)
  | x :: L, 0, _, c => rfl
  | x :: L, i + 1, hi, c => by
    have h := flatC_set L i (by simpa using hi) c
    rw [flatC_cons, show (i + 1) * 2 = i * 2 + 1 + 1 by omega]
    simp only [List.set_cons_succ, flatC_cons, h]
theorem flatC_one_cell (M : List Cen) : ∀ v ∈ flatC M, v.oneCell' = true := fun v hv => by
  simp only [flatC, List.mem_flatMap] at hv
  obtain ⟨x, _, hx⟩ := hv
  simp [encC] at hx
  rcases hx with rfl | rfl <;> rfl

/-- A row of centroids, opened: the block, the room, the cells. -/
structure CRow (w : World) (g cap : Nat) (L : List Cen) : Prop where
  row : ∃ cur, w.heap[g]? = some (.cells cur 49) ∧ cur.size = cap * 2 ∧ cur.toList.take (L.length * 2) = flatC L
  le : L.length ≤ cap
  mx : cap ≤ maxLen
section
variable {w : World} {top g cap : Nat} {L : List Cen}
theorem CRow.own (h : CRow w g cap L) (ht : top ≤ g) : w.ownsRow top 49 2 (.slice (some ⟨g, 0, none⟩) L.length cap) L.length (flatC L) := by
  obtain ⟨cur, h1, h2, h3⟩ := h.row
  exact ⟨flatC_len L, .inr ⟨g, cap, cur, rfl, ht, h1, h.le, h.mx, h2, h3⟩⟩
theorem CRow.of_own {n : Nat} (h : w.ownsRow top 49 2 (.slice (some ⟨g, 0, none⟩) n cap) n (flatC L)) (hn : n = L.length) : CRow w g cap L ∧ top ≤ g := by
  subst hn
  rcases h.2 with ⟨h1, _⟩ | ⟨g', cap', cur, h1, h2, h3, h4, h5, h6, h7⟩
  · cases h1
  · injection h1 with a b c
    injection a with a
    injection a with a
    subst a; subst c
    exact ⟨⟨⟨cur, h3, h6, h7⟩, h4, h5⟩, h2⟩
theorem CRow.lt (h : CRow w g cap L) : g < w.heap.size := by
  obtain ⟨cur, h1, _⟩ := h.row
  exact lt_of_at h1
theorem CRow.drewN (h : CRow w g cap L) (d : Nat) : CRow (w.drewN d) g cap L := ⟨h.row, h.le, h.mx⟩
theorem CRow.alloc (h : CRow w g cap L) (o : Obj) : CRow (w.alloc o) g cap L := by
  obtain ⟨cur, h1, h2⟩ := h.row
  exact ⟨⟨cur, at_alloc _ h1, h2⟩, h.le, h.mx⟩
theorem CRow.far (h : CRow w g cap L) {a : Addr} (ha : a.block ≠ g) (v : Value) : CRow (w.setCell a v) g cap L := by
  obtain ⟨cur, h1, h2⟩ := h.row
  exact ⟨⟨cur, at_set_other v ha h1, h2⟩, h.le, h.mx⟩
theorem CRow.fars (h : CRow w g cap L) {b : Nat} (hb : b ≠ g) (o : Nat) (vs : List Value) : CRow (w.setCells b o vs) g cap L := by
  obtain ⟨cur, h1, h2⟩ := h.row
  exact ⟨⟨cur, at_sets_other hb h1 o vs, h2⟩, h.le, h.mx⟩
theorem CRow.grown (h : CRow w g cap L) {w' : World} {row : Option Nat} (hg : w.grownBy w' row) (hne : some g ≠ row) : CRow w' g cap L := by
  obtain ⟨cur, h1, h2⟩ := h.row
  exact ⟨⟨cur, by rw [hg.block g (lt_of_at h1) hne]; exact h1, h2⟩, h.le, h.mx⟩
theorem CRow.block (h : CRow w g cap L) {w' : World} (he : w'.heap[g]? = w.heap[g]?) : CRow w' g cap L := by
  obtain ⟨cur, h1, h2⟩ := h.row
  exact ⟨⟨cur, he.trans h1, h2⟩, h.le, h.mx⟩
/-- Element i's two cells. -/
theorem CRow.cell (h : CRow w g cap L) (i : Nat) (hi : i < L.length) : w.cell? ⟨g, i * 2, none⟩ = some (.float .f64 L[i].m) ∧ w.cell? ⟨g, i * 2 + 1, none⟩ = some (.float .f64 (FI L[i].w)) := by
  obtain ⟨cur, h1, h2, h3⟩ := h.row
  have e := flatC_at L i hi
  rw [← h3, List.getElem?_take_of_lt (by omega), List.getElem?_take_of_lt (by omega)] at e
  exact ⟨cell_of h1 (by simpa using e.1), cell_of h1 (by simpa using e.2)⟩
theorem CRow.free (h : CRow w g cap L) (i : Nat) : w.frozen? ⟨g, i, none⟩ = false := by
  obtain ⟨cur, h1, _⟩ := h.row
  exact free_of h1
theorem CRow.emp (h : CRow w g cap L) : CRow w g cap [] := by
  obtain ⟨cur, h1, h2, _⟩ := h.row
  exact ⟨⟨cur, h1, h2, by simp [flatC]⟩, Nat.zero_le _, h.mx⟩
/-- Element i turned. -/
theorem CRow.turn (h : CRow w g cap L) (i : Nat) (hi : i < L.length) (c : Cen) : CRow ((w.setCell ⟨g, i * 2 + 1, none⟩ (.float .f64 (FI c.w))).setCell ⟨g, i * 2, none⟩ (.float .f64 c.m)) g cap (L.set i c) := by
  obtain ⟨cur, h1, h2, h3⟩ := h.row
  refine ⟨⟨(cur.setIfInBounds (i * 2 + 1) (.float .f64 (FI c.w))).setIfInBounds (i * 2) (.float .f64 c.m), at_set (at_set h1 _ _) _ _, by simp [h2], ?_⟩, by simpa using h.le, h.mx⟩
  rw [List.length_set, ← flatC_set L i hi c, ← h3]
  simp only [Array.toList_setIfInBounds, List.take_set]
  rw [List.set_comm _ _ (by omega)]
/-- The cells for an append. -/
theorem CRow.news (h : CRow w g cap L) : ∀ j u, (flatC L)[j]? = some u → w.cell? ((⟨g, 0, none⟩ : Addr).add j) = some u := fun j u hu => by
  obtain ⟨cur, h1, h2, h3⟩ := h.row
  have hadd : (⟨g, 0, none⟩ : Addr).add j = ⟨g, j, none⟩ := by unfold Addr.add; split <;> simp_all
  rw [hadd]
  refine cell_of h1 ?_
  rw [← h3] at hu
  have hlt : j < L.length * 2 := by
    rcases Nat.lt_or_ge j (L.length * 2) with h | h
    · exact h
    · rw [List.getElem?_eq_none (by rw [List.length_take]; omega)] at hu; cases hu
  rw [List.getElem?_take_of_lt hlt] at hu
  simpa using hu
/-- What the sort holds. -/
theorem CRow.holds (h : CRow w g cap L) (hv : ∀ c ∈ L, c.m < 2047 * 2 ^ 52) : HoldsK encS 2 w g 0 L.toArray := by
  intro j hj
  rw [size_flatK] at hj
  rw [get_flatK _ _ _ _ hj]
  obtain ⟨i, r, hr, rfl⟩ : ∃ i r, r < 2 ∧ j = i * 2 + r := ⟨j / 2, j % 2, by omega, by omega⟩
  have h1 : i < L.length := by simp at hj; omega
  obtain ⟨c0, c1⟩ := h.cell i h1
  have e : L.toArray[i]! = L[i] := by simp [h1]
  rw [show (i * 2 + r) / 2 = i by omega, show (i * 2 + r) % 2 = r by omega, e, encS_of (hv _ (List.getElem_mem h1)), Nat.zero_add]
  refine ⟨?_, h.free _⟩
  rcases (show r = 0 ∨ r = 1 by omega) with rfl | rfl
  · exact c0
  · exact c1
end
end Go.Proofs.YthcgojhfbcgaiaaGreatDoor

namespace Go.Proofs.YthcgojhfbcgaiaaGreatDoor
open Go.RowKit Go.Sort Go.Proofs

theorem ne_ty {w : World} {a b : Nat} {c d : Array Value} {s t : TypeId} (h1 : w.heap[a]? = some (.cells c s)) (h2 : w.heap[b]? = some (.cells d t)) (hst : s ≠ t) : a ≠ b := fun e => by
  subst e
  rw [h1] at h2
  injection h2 with h2
  injection h2 with h2 h3
  exact hst h3
/-- The digest's own cells. -/
def dgV (c : Nat) (vP vU vC : Value) (pw uw mn mx : Nat) : Array Value :=
  #[.float .f64 (FI c), .int .i64 ((2 * c : Nat) : Int), .int .i64 ((8 * c : Nat) : Int), vP, vU, vC, .float .f64 pw, .float .f64 uw, .float .f64 mn, .float .f64 mx]
def DgAt (w : World) (g c : Nat) (vP vU vC : Value) (pw uw mn mx : Nat) : Prop := w.heap[g]? = some (.cells (dgV c vP vU vC pw uw mn mx) 58)

/-- A row of floats, opened. -/
structure FRow (w : World) (g cap : Nat) (X : List Nat) : Prop where
  row : ∃ cur, w.heap[g]? = some (.cells cur 29) ∧ cur.size = cap ∧ cur.toList.take X.length = X.map (Value.float .f64)
  le : X.length ≤ cap
  mx : cap ≤ maxLen
section
variable {w : World} {g cap : Nat} {X : List Nat}
theorem FRow.drewN (h : FRow w g cap X) (d : Nat) : FRow (w.drewN d) g cap X := ⟨h.row, h.le, h.mx⟩
theorem FRow.alloc (h : FRow w g cap X) (o : Obj) : FRow (w.alloc o) g cap X := by
  obtain ⟨cur, h1, h2⟩ := h.row
  exact ⟨⟨cur, at_alloc _ h1, h2⟩, h.le, h.mx⟩
theorem FRow.far (h : FRow w g cap X) {a : Addr} (ha : a.block ≠ g) (v : Value) : FRow (w.setCell a v) g cap X := by
  obtain ⟨cur, h1, h2⟩ := h.row
  exact ⟨⟨cur, at_set_other v ha h1, h2⟩, h.le, h.mx⟩
theorem FRow.block (h : FRow w g cap X) {w' : World} (he : w'.heap[g]? = w.heap[g]?) : FRow w' g cap X := by
  obtain ⟨cur, h1, h2⟩ := h.row
  exact ⟨⟨cur, he.trans h1, h2⟩, h.le, h.mx⟩
theorem FRow.lt (h : FRow w g cap X) : g < w.heap.size := by
  obtain ⟨cur, h1, _⟩ := h.row
  exact lt_of_at h1
theorem FRow.emp (h : FRow w g cap X) : FRow w g cap [] := by
  obtain ⟨cur, h1, h2, _⟩ := h.row
  exact ⟨⟨cur, h1, h2, by simp⟩, Nat.zero_le _, h.mx⟩
theorem FRow.cell (h : FRow w g cap X) (i : Nat) (hi : i < X.length) : w.cell? ⟨g, i, none⟩ = some (.float .f64 X[i]) := by
  obtain ⟨cur, h1, h2, h3⟩ := h.row
  refine cell_of h1 ?_
  have := congrArg (fun l => l[i]?) h3
  simp only [List.getElem?_take_of_lt hi, List.getElem?_map, List.getElem?_eq_getElem hi, Option.map_some, Array.getElem?_toList] at this
  exact this
theorem FRow.has (h : FRow w g cap X) (i : Nat) (hi : i < cap) : ∃ v, w.cell? ⟨g, i, none⟩ = some v ∧ w.frozen? ⟨g, i, none⟩ = false := by
  obtain ⟨cur, h1, h2, h3⟩ := h.row
  exact ⟨_, cell_of h1 (Array.getElem?_eq_getElem (by omega)), free_of h1⟩
theorem FRow.push (h : FRow w g cap X) (hc : X.length < cap) (x : Nat) : FRow (w.setCell ⟨g, X.length, none⟩ (.float .f64 x)) g cap (X ++ [x]) := by
  obtain ⟨cur, h1, h2, h3⟩ := h.row
  refine ⟨⟨cur.setIfInBounds X.length (.float .f64 x), at_set h1 _ _, by simp [h2], ?_⟩, by simp; omega, h.mx⟩
  rw [List.length_append, List.length_singleton, List.map_append, ← h3, Array.toList_setIfInBounds, List.take_add_one]
  have hl2 : X.length < cur.size := by omega
  simp [List.take_set_of_le, hl2]
theorem FRow.fresh (w : World) (n : Nat) (hn : n ≤ maxLen) (z : Array Value) (hz : z.size = n) : FRow (w.alloc (.cells z 29)) w.heap.size n [] :=
  ⟨⟨z, hp_at _ _ _ rfl, hz, by simp⟩, Nat.zero_le _, hn⟩
end

/-- The sums that updateCumulative lays. -/
def cumPre (s : Nat) : List Cen → List Nat
  | [] => []
  | c :: r => FX ((16 * s + 8 * c.w : Nat) : Int) :: cumPre (s + c.w) r
def cumX (P : List Cen) : List Nat := cumPre 0 P ++ [FI (wt P)]
theorem cumPre_len : ∀ (L : List Cen) (s : Nat), (cumPre s L).length = L.length
  | [], _ => rfl
  | c :: r, s => by simp [cumPre, cumPre_len r]
theorem cumPre_snoc : ∀ (L : List Cen) (s : Nat) (c : Cen), cumPre s (L ++ [c]) = cumPre s L ++ [FX ((16 * (s + wt L) + 8 * c.w : Nat) : Int)]
  | [], s, c => by simp [cumPre, wt_nil]
  | x :: r, s, c => by
    simp only [List.cons_append, cumPre, cumPre_snoc r, wt_cons]
    rw [show s + x.w + wt r = s + (x.w + wt r) by omega]
theorem half_of {n : Nat} (h : n < 2 ^ 40) : Ieee.double.div (FI n) 4611686018427387904 = some (FX ((8 * n : Nat) : Int)) := by
  have e2 : (4611686018427387904 : Nat) = FI 2 := Nat.le_antisymm (of_decide_eq_true (by decide +kernel)) (of_decide_eq_true (by decide +kernel))
  have i1 := FI_in n (by omega)
  have v1 := rungVal_FI n (by omega)
  have v2 := rungVal_FI 2 (by omega)
  have p2 : FI 2 ≠ 0 := by have := FI_pos (n := 2) (by omega) (by omega); omega
  obtain ⟨R, h1, h2, h3⟩ := div_spec i1 (FI_in 2 (by omega)) p2
  have v3 := (FP_spec (p := 4) (j := 8 * n) (by omega) (by omega)).2
  have l3 := (FP_spec (p := 4) (j := 8 * n) (by omega) (by omega)).1
  have hE : (2 : Nat) ^ E74 = E := rfl
  rw [hE] at v3 h2 h3
  rw [FX_FP]
  have hv : n * E * E = rungVal (FP 4 (8 * n)) * (2 * E) := by
    generalize rungVal (FP 4 (8 * n)) = Z at v3 ⊢
    rw [Nat.mul_assoc] at v3
    have a : Z * 2 = n * E := by omega
    rw [← Nat.mul_assoc, a]
  have r1 := h2 (FP 4 (8 * n)) (by show rungVal (floatOfInt .f64 (n : Int)) * E ≤ _ * rungVal (floatOfInt .f64 ((2 : Nat) : Int)); rw [v1, v2, hv]; exact Nat.le_refl _)
  have r2 := h3 (FP 4 (8 * n)) (by show _ * rungVal (floatOfInt .f64 ((2 : Nat) : Int)) ≤ rungVal (floatOfInt .f64 (n : Int)) * E; rw [v1, v2, hv]; exact Nat.le_refl _)
  rw [e2, h1, Nat.le_antisymm r1 r2]
  exact congrArg some (Nat.min_eq_left (Nat.le_of_lt l3))
theorem cum_add {s c : Nat} (hs : s < 2 ^ 40) (hc : c < 2 ^ 40) : Ieee.double.add (FI s) (FX ((8 * c : Nat) : Int)) = some (FX ((16 * s + 8 * c : Nat) : Int)) := by
  show Ieee.double.add (floatOfInt .f64 (s : Int)) _ = _
  rw [FI_FX s (by omega), FX_add (by omega) (by omega)]
  congr 2
end Go.Proofs.YthcgojhfbcgaiaaGreatDoor
