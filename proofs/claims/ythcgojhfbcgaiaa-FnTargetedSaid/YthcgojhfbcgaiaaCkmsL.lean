/- The summary's bounds through a flush. Plain lemmas. -/
import Derived.Test.YthcgojhfbcgaiaaCkmsF
namespace Go.Proofs.Ythcgojhfbcgaiaa
namespace Ckms

/-- What a summary's elements keep: widths of at least one, small deltas, small values. -/
structure LOk (L : List Sm) (n : Nat) : Prop where
  tot : tot L = n
  el : ∀ x ∈ L, x.v < 2 ^ 40 ∧ 1 ≤ x.g ∧ x.d ≤ 1200

theorem Fq_le8 {k : Nat} (h1 : 1 ≤ k) (h2 : k ≤ 15) (r n : Nat) (hr : r ≤ n) (hn : n ≤ 1200) : Fq k r n ≤ 768 := by
  unfold Fq
  rcases k_cases h1 h2 with h | h | h | h | h | h | h | h | h | h | h | h | h | h | h <;> subst h <;> split <;> omega

theorem g_le_tot : ∀ {L : List Sm} {x : Sm}, x ∈ L → x.g ≤ Ckms.tot L
  | y :: L, x, h => by
    rcases List.mem_cons.1 h with rfl | h
    · simp [Ckms.tot]
    · have := g_le_tot h; simp [Ckms.tot]; omega

theorem merge_el {k : Nat} (h1 : 1 ≤ k) (h2 : k ≤ 15) (N : Nat) (hN : N ≤ 1200) : ∀ (L : List Sm) (bs : List Nat) (r n : Nat), r + Ckms.tot L = n → n + bs.length = N → (∀ x ∈ L, x.v < 2 ^ 40 ∧ 1 ≤ x.g ∧ x.d ≤ 1200) → (∀ b ∈ bs, b < 2 ^ 40) →
    ∀ x ∈ merge (Fq k) L bs r n, x.v < 2 ^ 40 ∧ 1 ≤ x.g ∧ x.d ≤ 1200 := by
  intro L bs r n
  fun_induction merge (Fq k) L bs r n with
  | case1 => intro _ _ h _; exact h
  | case2 b bs r n ih =>
    intro a c h hb x hx
    rcases List.mem_cons.1 hx with rfl | hx
    · exact ⟨hb b (by simp), Nat.le_refl 1, Nat.zero_le _⟩
    · exact ih (by simp [Ckms.tot] at a ⊢; omega) (by simp at c; omega) (by simp) (fun y hy => hb y (List.mem_cons_of_mem _ hy)) x hx
  | case3 c L b bs r n hlt ih =>
    intro a d h hb x hx
    rcases List.mem_cons.1 hx with rfl | hx
    · have := Fq_le8 h1 h2 r n (by omega) (by simp at d; omega)
      exact ⟨hb b (by simp), Nat.le_refl 1, by show Fq k r n - 1 ≤ 1200; omega⟩
    · exact ih (by omega) (by simp at d; omega) h (fun y hy => hb y (List.mem_cons_of_mem _ hy)) x hx
  | case4 c L b bs r n hlt ih =>
    intro a d h hb x hx
    rcases List.mem_cons.1 hx with rfl | hx
    · exact h x (by simp)
    · exact ih (by simp [Ckms.tot] at a; omega) d (fun y hy => h y (List.mem_cons_of_mem _ hy)) hb x hx

theorem comp_el (F n) : ∀ (rest : List Sm) (x : Sm) (acc : List Sm), (∀ y ∈ rest ++ x :: acc, y.v < 2 ^ 40 ∧ 1 ≤ y.g ∧ y.d ≤ 1200) → ∀ y ∈ comp F n x rest acc, y.v < 2 ^ 40 ∧ 1 ≤ y.g ∧ y.d ≤ 1200
  | [], x, acc => fun h y hy => h y (by simpa [comp] using hy)
  | c :: rest, x, acc => fun h y hy => by
    rw [comp] at hy
    split at hy
    · refine comp_el F n rest _ acc (fun z hz => ?_) y hy
      simp at hz
      rcases hz with hz | rfl | hz
      · exact h z (by simp [hz])
      · have a := h x (by simp)
        exact ⟨a.1, by show 1 ≤ x.g + c.g; omega, a.2.2⟩
      · exact h z (by simp [hz])
    · refine comp_el F n rest c (x :: acc) (fun z hz => ?_) y hy
      simp at hz
      rcases hz with hz | rfl | rfl | hz
      · exact h z (by simp [hz])
      · exact h z (by simp)
      · exact h z (by simp)
      · exact h z (by simp [hz])

theorem flush_ok {k : Nat} (h1 : 1 ≤ k) (h2 : k ≤ 15) {L : List Sm} {n : Nat} {bs : List Nat} (h : LOk L n) (hn : n + bs.length ≤ 1200) (hb : ∀ b ∈ bs, b < 2 ^ 40) : LOk (flush k L n bs) (n + bs.length) := by
  have hm := merge_el h1 h2 (n + bs.length) hn L bs 0 n (by rw [h.tot]; omega) rfl h.el hb
  unfold flush
  refine ⟨by rw [compress_tot, merge_tot, h.tot], ?_⟩
  unfold compress
  split
  · simp
  · rename_i x rest he
    refine comp_el _ _ rest x [] fun y hy => hm y ?_
    rw [← List.mem_reverse, he]
    simp at hy ⊢
    rcases hy with hy | hy
    · exact Or.inr hy
    · exact Or.inl hy
end Ckms
end Go.Proofs.Ythcgojhfbcgaiaa
