/- A permutation of images is an image of a permutation. Plain lemma. -/
import Derived.Test.YthcgojhfbcgaiaaGreatBins
namespace Go.Proofs.YthcgojhfbcgaiaaGreat

theorem perm_map_inv {α β : Type} (f : α → β) : ∀ {ys zs : List β}, ys.Perm zs → ∀ l : List α, zs = l.map f → ∃ l' : List α, l'.Perm l ∧ ys = l'.map f := by
  intro ys zs h
  induction h with
  | nil => intro l hl; exact ⟨l, .refl _, hl⟩
  | cons x h ih =>
    intro l hl
    cases l with
    | nil => simp at hl
    | cons a l =>
      simp only [List.map_cons, List.cons.injEq] at hl
      obtain ⟨l', h1, h2⟩ := ih l hl.2
      exact ⟨a :: l', h1.cons a, by rw [h2, hl.1]; simp⟩
  | swap x y t =>
    intro l hl
    match l, hl with
    | a :: b :: l, hl =>
      simp only [List.map_cons, List.cons.injEq] at hl
      exact ⟨b :: a :: l, .swap _ _ _, by rw [hl.1, hl.2.1, hl.2.2]; simp⟩
  | trans h1 h2 ih1 ih2 =>
    intro l hl
    obtain ⟨l2, p2, e2⟩ := ih2 l hl
    obtain ⟨l1, p1, e1⟩ := ih1 l2 e2
    exact ⟨l1, p1.trans p2, e1⟩

end Go.Proofs.YthcgojhfbcgaiaaGreat
