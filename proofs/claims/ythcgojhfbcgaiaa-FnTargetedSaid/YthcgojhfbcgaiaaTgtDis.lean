/- Many different whole values, and their sorted batches. Plain lemmas. -/
import Derived.Test.YthcgojhfbcgaiaaTgtMS
namespace Go.Proofs.Ythcgojhfbcgaiaa
open Go.RowKit Go.Sort Go.Proofs

theorem perm_map_inv {α β : Type} (f : α → β) : ∀ {ys zs : List β}, ys.Perm zs → ∀ l : List α, zs = l.map f → ∃ l' : List α, l'.Perm l ∧ ys = l'.map f := by
  intro ys zs h
  induction h with
  | nil => intro l hl; exact ⟨l, .refl _, hl⟩
  | cons x h ih =>
    intro l hl
    cases l with
    | nil => simp at hl
    | cons a l =>
      simp only [List.map_cons, List.cons.injEq] at hl
      obtain ⟨l', h1, h2⟩ := ih l hl.2
      exact ⟨a :: l', h1.cons a, by rw [h2, hl.1]; simp⟩
  | swap x y t =>
    intro l hl
    match l, hl with
    | a :: b :: l, hl =>
      simp only [List.map_cons, List.cons.injEq] at hl
      exact ⟨b :: a :: l, .swap _ _ _, by rw [hl.1, hl.2.1, hl.2.2]; simp⟩
  | trans h1 h2 ih1 ih2 =>
    intro l hl
    obtain ⟨l2, p2, e2⟩ := ih2 l hl
    obtain ⟨l1, p1, e1⟩ := ih1 l2 e2
    exact ⟨l1, p1.trans p2, e1⟩

/-- The value at place i of a long stream. -/
def lng (s i : Nat) : Nat := i * s % 1201
theorem cop_all : ∀ s, s < 1201 → 0 < s → Nat.gcd 1201 s = 1 := by decide +kernel
theorem lng_lt (s i : Nat) : lng s i < 1201 := Nat.mod_lt _ (by omega)
theorem lng_inj {s i j : Nat} (h0 : 0 < s) (hs : s < 1201) (hj : j < 1201) (hij : i < j) : lng s i ≠ lng s j := fun h => by
  unfold lng at h
  have h1 : 1201 ∣ j * s - i * s := by
    have hle : i * s ≤ j * s := Nat.mul_le_mul_right s (by omega)
    exact ⟨j * s / 1201 - i * s / 1201, by omega⟩
  rw [← Nat.sub_mul] at h1
  have h2 : 1201 ∣ j - i := Nat.Coprime.dvd_of_dvd_mul_right (cop_all s hs h0) h1
  have := Nat.le_of_dvd (by omega) h2
  omega

/-- A part of the values, in the order in which they came. -/
def part (v : Nat → Nat) (o n : Nat) : List Nat := (List.range n).map fun i => v (o + i)
theorem part_len (v : Nat → Nat) (o n : Nat) : (part v o n).length = n := by simp [part]
theorem part_succ (v : Nat → Nat) (o n : Nat) : part v o (n + 1) = part v o n ++ [v (o + n)] := by simp [part, List.range_succ]
theorem part_mem {v : Nat → Nat} {o n x : Nat} (h : x ∈ part v o n) : ∃ i, i < n ∧ x = v (o + i) := by
  simp only [part, List.mem_map, List.mem_range] at h
  obtain ⟨i, h1, h2⟩ := h
  exact ⟨i, h1, h2.symm⟩
theorem part_append (v : Nat → Nat) (o a b : Nat) : part v o a ++ part v (o + a) b = part v o (a + b) := by
  induction b with
  | zero => simp [part]
  | succ b ih => rw [part_succ, ← List.append_assoc, ih, show a + (b + 1) = a + b + 1 by omega, part_succ, Nat.add_assoc]
theorem part_nodup {v : Nat → Nat} {o n : Nat} (hv : ∀ i j, i < j → j < o + n → v i ≠ v j) : (part v o n).Nodup := by
  unfold part
  rw [List.Nodup, List.pairwise_map]
  refine List.pairwise_lt_range.imp_of_mem fun {a b} _ hb h => hv _ _ (by omega) ?_
  rw [List.mem_range] at hb; omega

/-- The sorted samples of a batch are those of its values in order. -/
theorem batch_sorted {v : Nat → Nat} {o n : Nat} (hv : ∀ i j, i < j → j < o + n → v i ≠ v j) (hb : ∀ i, v i < 2 ^ 40) {ys : List SmpF} (hp : ys.Perm ((part v o n).map fun b => oneSmp (fN b))) (hs : ys.Pairwise (fun a b => ltSmp b a = false)) :
    ∃ bs : List Nat, bs.Perm (part v o n) ∧ bs.Pairwise (· < ·) ∧ ys = bs.map fun b => oneSmp (fN b) := by
  obtain ⟨bs, h1, rfl⟩ := perm_map_inv _ hp _ rfl
  refine ⟨bs, h1, ?_, rfl⟩
  have hn : bs.Nodup := (h1.nodup_iff).2 (part_nodup hv)
  rw [List.pairwise_map] at hs
  refine (hs.and hn).imp_of_mem fun {a b} ha hb' h => ?_
  obtain ⟨i, _, ei⟩ := part_mem (h1.subset ha)
  obtain ⟨j, _, ej⟩ := part_mem (h1.subset hb')
  have h2 := h.1
  unfold ltSmp ltF at h2
  have h3 := of_decide_eq_false h2
  have ha' : a < 2 ^ 40 := ei ▸ hb _
  have hb'' : b < 2 ^ 40 := ej ▸ hb _
  show a < b
  rcases Nat.lt_trichotomy a b with h4 | h4 | h4
  · exact h4
  · exact absurd h4 h.2
  · exfalso
    refine h3 ?_
    show (fN b).b < (fN a).b
    rw [fN_b a (by omega), fN_b b (by omega), FI_FX a (by omega), FI_FX b (by omega), FX_FP', FX_FP']
    have := FP_le (p := 4) (q := 4) (j := 16 * a) (l := 16 * b) (by omega) (by omega) (by omega) (by omega)
    omega
end Go.Proofs.Ythcgojhfbcgaiaa
