/- The stream of targeted quantiles, on plain lists: the rank of what is told, for a quantile of k sixteenths and an error of two in a hundred, at 500 to 1200 values. Plain lemmas. -/
import Derived.Test.YthcgojhfbcgaiaaGreatDoorMBH

namespace Go.Proofs.YthcgojhfbcgaiaaGreatDoor
namespace Ckms

/-- The allowed width at a rank: the error's part, whole. -/
def Fq (k r n : Nat) : Nat := if k * n ≤ 16 * r then 16 * r / (25 * k) else 16 * (n - r) / (25 * (16 - k))

theorem k_cases {k : Nat} (h1 : 1 ≤ k) (h2 : k ≤ 15) : k = 1 ∨ k = 2 ∨ k = 3 ∨ k = 4 ∨ k = 5 ∨ k = 6 ∨ k = 7 ∨ k = 8 ∨ k = 9 ∨ k = 10 ∨ k = 11 ∨ k = 12 ∨ k = 13 ∨ k = 14 ∨ k = 15 := by omega

theorem Fq_mono {k : Nat} (h1 : 1 ≤ k) (h2 : k ≤ 15) (r n j : Nat) (hr : r ≤ n) : Fq k r n ≤ Fq k (r + j) (n + j) := by
  unfold Fq
  rcases k_cases h1 h2 with h | h | h | h | h | h | h | h | h | h | h | h | h | h | h <;> subst h <;> split <;> split <;> omega

theorem Fq_n {k : Nat} (h1 : 1 ≤ k) (h2 : k ≤ 15) (r n j : Nat) (hr : r ≤ n) : Fq k r n ≤ Fq k r (n + j) := by
  unfold Fq
  rcases k_cases h1 h2 with h | h | h | h | h | h | h | h | h | h | h | h | h | h | h <;> subst h <;> split <;> split <;> omega

theorem Fq_pos {k : Nat} (h1 : 1 ≤ k) (h2 : k ≤ 15) (r n : Nat) (hr : r ≤ n) (hn : 500 ≤ n) : 1 ≤ Fq k r n := by
  unfold Fq
  rcases k_cases h1 h2 with h | h | h | h | h | h | h | h | h | h | h | h | h | h | h <;> subst h <;> split <;> omega

def Gq (k P : Nat) : Nat := max (16 * P / (25 * k)) (320 / (16 - k))

theorem Gq_ge {k : Nat} (h1 : 1 ≤ k) (h2 : k ≤ 15) (P j : Nat) (hr : P ≤ 500) : Fq k P 500 ≤ Gq k (P + j) := by
  unfold Fq Gq
  rcases k_cases h1 h2 with h | h | h | h | h | h | h | h | h | h | h | h | h | h | h <;> subst h <;> split <;> omega
theorem Gq_mono {k : Nat} (h1 : 1 ≤ k) (h2 : k ≤ 15) (P j : Nat) : Gq k P ≤ Gq k (P + j) := by
  unfold Gq
  rcases k_cases h1 h2 with h | h | h | h | h | h | h | h | h | h | h | h | h | h | h <;> subst h <;> omega
theorem Gq_pos {k : Nat} (h1 : 1 ≤ k) (h2 : k ≤ 15) (P : Nat) : 1 ≤ Gq k P := by
  unfold Gq
  rcases k_cases h1 h2 with h | h | h | h | h | h | h | h | h | h | h | h | h | h | h <;> subst h <;> omega

/-- What the query adds to the rank that it looks for. -/
def tq (k n : Nat) : Nat := (k * n + 15) / 16 + (8 * ((k * n + 15) / 16) + 25 * k - 1) / (25 * k)

/-- What is known of an element at the end. -/
def J5 (k n : Nat) (P : Nat) (e : Sm) (R : Nat) : Prop :=
  1 ≤ e.g ∧ P + e.g ≤ R ∧ P + e.g ≤ n ∧
  (R ≤ P + e.g + e.d ∨ ∃ c n', 1 ≤ c ∧ c ≤ Gq k (P + e.g - 1) ∧ 1000 ≤ n' ∧ n' ≤ n ∧ P + e.g ≤ n' ∧ R + 1 ≤ P + e.g + Fq k (P + e.g - 1 + c - 1) n' ∧ Fq k (P + e.g - 1) n' ≤ e.d + 1) ∧
  ∃ c, 1 ≤ c ∧ c ≤ e.g ∧ e.g + e.d ≤ Fq k (P + c - 1) n

set_option maxHeartbeats 4000000 in
theorem upper_ok (k n P g d R : Nat) (h1 : 1 ≤ k) (h2 : k ≤ 15) (hn : 500 ≤ n) (hn2 : n ≤ 1200) (hg : 1 ≤ g) (hPn : P + g ≤ n)
    (hR : R ≤ P + g + d ∨ ∃ c n', 1 ≤ c ∧ c ≤ Gq k (P + g - 1) ∧ 1000 ≤ n' ∧ n' ≤ n ∧ P + g ≤ n' ∧ R + 1 ≤ P + g + Fq k (P + g - 1 + c - 1) n' ∧ Fq k (P + g - 1) n' ≤ d + 1)
    (hF : ∃ c, 1 ≤ c ∧ c ≤ g ∧ g + d ≤ Fq k (P + c - 1) n)
    (hq : P = 0 ∨ P + g + d ≤ tq k n) : 1600 * R ≤ 100 * k * n + 96 * n + 7900 := by
  obtain ⟨c2, c21, c22, c23⟩ := hF
  unfold tq at hq
  rcases hR with hR | ⟨c, n', a1, a2, a3, a4, a5, a6, a7⟩
  · unfold Fq at c23
    rcases k_cases h1 h2 with h | h | h | h | h | h | h | h | h | h | h | h | h | h | h <;> subst h <;> split at c23 <;> omega
  · unfold Fq at c23 a6 a7
    unfold Gq at a2
    rcases k_cases h1 h2 with h | h | h | h | h | h | h | h | h | h | h | h | h | h | h <;> subst h <;> split at c23 <;> split at a6 <;> split at a7 <;> omega

set_option maxHeartbeats 4000000 in
theorem lower_ok (k n P R g d S : Nat) (h1 : 1 ≤ k) (h2 : k ≤ 15) (hn : 500 ≤ n) (hn2 : n ≤ 1200) (hS : S ≤ R) (hS1 : 1 ≤ S) (_hP : P ≤ S)
    (hg : 1 ≤ g) (hSn : S + g ≤ n) (hF : ∃ c, 1 ≤ c ∧ c ≤ g ∧ g + d ≤ Fq k (S + c - 1) n)
    (hq : tq k n < S + g + d) : 100 * k * n ≤ 1600 * R + 96 * n + 7900 := by
  obtain ⟨c2, c21, c22, c23⟩ := hF
  unfold tq at hq
  unfold Fq at c23
  rcases k_cases h1 h2 with h | h | h | h | h | h | h | h | h | h | h | h | h | h | h <;> subst h <;> split at c23 <;> omega

def flush (k : Nat) (L : List Sm) (n : Nat) (bs : List Nat) : List Sm := compress (Fq k) (n + bs.length) (merge (Fq k) L bs 0 n)

/-- A summary of X: it tells all of X, in order. -/
structure Tells (L : List Sm) (X : List Nat) : Prop where
  tot : tot L = X.length
  sorted : Sorted L
  mem : ∀ x ∈ L, x.v ∈ X
  last : ∀ b, (∀ c ∈ L, c.v < b) → rk X b = X.length

theorem last_of_top (I : Nat → Sm → Nat → Prop) (X : List Nat) (hI : ∀ P c R, I P c R → P + c.g ≤ R) : ∀ (L : List Sm) (P : Nat), AllR I X P L → L ≠ [] → ∀ b, (∀ c ∈ L, c.v < b) → P + tot L ≤ rk X b
  | [x], P, h, _, b, hb => by
    have := hI _ _ _ h.1
    have := rk_mono X (Nat.le_of_lt (hb x (by simp)))
    simp [tot]; omega
  | x :: y :: L, P, h, _, b, hb => by
    have := last_of_top I X hI (y :: L) (P + x.g) h.2 (by simp) b (fun c hc => hb c (List.mem_cons_of_mem _ hc))
    simp only [tot] at this ⊢; omega

/-- ONE FLUSH. -/
theorem flush_step (k : Nat) (I J : Nat → Sm → Nat → Prop) (L : List Sm) (X bs : List Nat) (hT : Tells L X) (hI : AllR I X 0 L) (hlow : ∀ P c R, I P c R → P + c.g ≤ R)
    (hbs : bs.Pairwise (· < ·)) (hd : ∀ b ∈ bs, b ∉ X) (hne : X ++ bs ≠ [])
    (ha : ∀ P c R j, j ≤ bs.length → I P c R → P + c.g ≤ X.length → J (P + j) c (R + j))
    (hb : ∀ P c R j b R', j < bs.length → I P c R → P + c.g ≤ X.length → P + j + 1 ≤ R' → R' ≤ R + j → J (P + j) ⟨b, 1, Fq k (P + j) (X.length + j) - 1⟩ R')
    (hc : ∀ P b, P < X.length + bs.length → J P ⟨b, 1, 0⟩ (P + 1)) (hJlow : ∀ P c R, J P c R → P + c.g ≤ R) :
    Tells (flush k L X.length bs) (X ++ bs) ∧ AllR (fun P x R => Merged (Fq k) (X.length + bs.length) J P x R ∧ P + x.g ≤ X.length + bs.length) (X ++ bs) 0 (flush k L X.length bs) := by
  have hI' := AllR.bound _ _ hI
  rw [hT.tot] at hI'
  have hM := merge_ranks (Fq k) (fun P c R => I P c R ∧ P + c.g ≤ 0 + X.length) J X bs.length
    (fun P c R j hj h => ha P c R j hj h.1 (by omega)) (fun P c R j b R' hj h h1 h2 => hb P c R j b R' hj h.1 (by omega) h1 h2) hc
    L bs 0 X.length [] 0 (by simp) (by simp) (by simp) hT.sorted hbs (by simp) (by simp) hT.mem hd hI' (by rw [hT.tot]; omega) (by simp) (fun b hb' h => hT.last b h) (fun P c h => hlow _ _ _ h.1.1)
  rw [List.nil_append] at hM
  have hmt : tot (merge (Fq k) L bs 0 X.length) = (X ++ bs).length := by rw [merge_tot, hT.tot]; simp
  have hms : Sorted (merge (Fq k) L bs 0 X.length) := merge_sorted _ _ _ _ _ hT.sorted hbs (fun x hx h => hd _ h (hT.mem x hx))
  have hmm : ∀ x ∈ merge (Fq k) L bs 0 X.length, x.v ∈ X ++ bs := fun x hx => by
    rcases merge_mem _ _ _ _ _ x hx with h | h
    · exact List.mem_append_left _ (hT.mem x h)
    · exact List.mem_append_right _ h
  have hmne : merge (Fq k) L bs 0 X.length ≠ [] := fun h => by
    rw [h] at hmt
    have : 0 < (X ++ bs).length := List.length_pos_iff.2 hne
    simp only [tot] at hmt; omega
  have hC := compress_ranks (Fq k) (X.length + bs.length) J _ _ hM
  have hCb := AllR.bound _ _ hC
  have hct : tot (flush k L X.length bs) = (X ++ bs).length := by unfold flush; rw [compress_tot, hmt]
  unfold flush at hct ⊢
  rw [hct] at hCb
  refine ⟨⟨hct, compress_sorted _ _ _ hms, fun x hx => ?_, fun b hb' => ?_⟩, AllR.mono (fun P x R h => ⟨h.1, by have := h.2; simp at this; omega⟩) _ _ hCb⟩
  · obtain ⟨y, h1, h2⟩ := compress_mem _ _ _ x hx
    rw [← h2]; exact hmm y h1
  · have := last_of_top _ _ (fun P c R (h : Merged (Fq k) (X.length + bs.length) J P c R) => by
      obtain ⟨P0, g0, a, b, _⟩ := h
      have := hJlow _ _ _ a
      simp only at this; omega) _ 0 hC (compress_ne _ _ _ hmne) b hb'
    have := rk_le (X ++ bs) b
    omega

def J0 (P : Nat) (e : Sm) (R : Nat) : Prop := e.g = 1 ∧ e.d = 0 ∧ R = P + 1 ∧ P < 500
def J1 (k : Nat) (P : Nat) (e : Sm) (R : Nat) : Prop := R = P + e.g ∧ e.d = 0 ∧ 1 ≤ e.g ∧ e.g ≤ Fq k P 500
def J2 (k n2 : Nat) (P : Nat) (e : Sm) (R : Nat) : Prop := P + e.g ≤ R ∧ R ≤ P + e.g + e.d ∧ 1 ≤ e.g ∧ e.g + e.d ≤ Fq k P n2 ∧ e.g ≤ Gq k P
def J3 (k n2 : Nat) (P : Nat) (e : Sm) (R : Nat) : Prop := P + e.g ≤ R ∧ R ≤ P + e.g + e.d ∧ 1 ≤ e.g ∧ ∃ c, 1 ≤ c ∧ c ≤ e.g ∧ c ≤ Gq k P ∧ e.g + e.d ≤ Fq k (P + c - 1) n2

theorem stage1 (k : Nat) (h1 : 1 ≤ k) (h2 : k ≤ 15) (B1 : List Nat) (hl : B1.length = 500) (hs : B1.Pairwise (· < ·)) :
    Tells (flush k [] 0 B1) B1 ∧ AllR (fun P x R => J1 k P x R ∧ P + x.g ≤ 500) B1 0 (flush k [] 0 B1) := by
  have h := flush_step k (fun _ _ _ => False) J0 [] [] B1 ⟨rfl, List.Pairwise.nil, by simp, fun b _ => by simp [rk]⟩ trivial (fun _ _ _ h => h.elim) hs (by simp)
    (by intro h; rw [List.nil_append] at h; rw [h] at hl; simp at hl) (fun _ _ _ _ _ h => h.elim) (fun _ _ _ _ _ _ _ h => h.elim)
    (fun P b hP => ⟨rfl, rfl, rfl, by simp at hP; omega⟩) (fun P c R h => by obtain ⟨a, _, b, _⟩ := h; omega)
  simp only [List.nil_append, List.length_nil, Nat.zero_add, hl] at h
  refine ⟨h.1, AllR.mono (fun P x R hx => ?_) _ _ h.2⟩
  obtain ⟨⟨P0, g0, ⟨a1, a2, a3, a4⟩, b1, b2, b3⟩, hb⟩ := hx
  simp only at a1 a2
  refine ⟨⟨by omega, a2, by omega, ?_⟩, hb⟩
  rcases b3 with ⟨c1, _, _, c4⟩ | ⟨c, Rc, ⟨c1, c2, c3, c4⟩, d1, d2⟩
  · have := Fq_pos h1 h2 P 500 (by omega) (by omega); omega
  · rw [c1] at d2; simp only [Nat.add_sub_cancel] at d2; omega

theorem stage2 (k : Nat) (h1 : 1 ≤ k) (h2 : k ≤ 15) (B1 B2 : List Nat) (hl : B1.length = 500) (hs : B1.Pairwise (· < ·)) (hl2 : B2.length ≤ 500) (hs2 : B2.Pairwise (· < ·)) (hd : ∀ b ∈ B2, b ∉ B1) :
    Tells (flush k (flush k [] 0 B1) 500 B2) (B1 ++ B2) ∧
      AllR (fun P x R => J3 k (500 + B2.length) P x R ∧ P + x.g ≤ 500 + B2.length) (B1 ++ B2) 0 (flush k (flush k [] 0 B1) 500 B2) := by
  obtain ⟨T, A⟩ := stage1 k h1 h2 B1 hl hs
  have h := flush_step k _ (J2 k (500 + B2.length)) _ B1 B2 T A (fun P c R h => by obtain ⟨⟨a, _⟩, _⟩ := h; omega) hs2 hd
    (by intro h; have := congrArg List.length h; rw [List.length_append] at this; simp only [List.length_nil] at this; omega)
    (fun P c R j hj h _ => by
      obtain ⟨⟨a1, a2, a3, a4⟩, a5⟩ := h
      have m1 := Fq_mono h1 h2 P 500 j (by omega)
      have m2 := Fq_n h1 h2 (P + j) (500 + j) (B2.length - j) (by omega)
      rw [show 500 + j + (B2.length - j) = 500 + B2.length by omega] at m2
      have m3 := Gq_ge h1 h2 P j (by omega)
      exact ⟨by omega, by omega, a3, by omega, by omega⟩)
    (fun P c R j b R' hj h _ e1 e2 => by
      obtain ⟨⟨a1, a2, a3, a4⟩, a5⟩ := h
      have m1 := Fq_mono h1 h2 P 500 j (by omega)
      have m2 := Fq_n h1 h2 (P + j) (500 + j) (B2.length - j) (by omega)
      rw [show 500 + j + (B2.length - j) = 500 + B2.length by omega] at m2
      have m4 := Gq_pos h1 h2 (P + j)
      have m5 := Fq_pos h1 h2 (P + j) (500 + j) (by omega) (by omega)
      rw [hl]
      refine ⟨by show P + j + 1 ≤ R'; omega, ?_, Nat.le_refl _, ?_, by show 1 ≤ _; omega⟩
      · show R' ≤ P + j + 1 + (Fq k (P + j) (500 + j) - 1); omega
      · show 1 + (Fq k (P + j) (500 + j) - 1) ≤ _; omega)
    (fun P b hP => by
      rw [hl] at hP
      have m5 := Fq_pos h1 h2 P (500 + B2.length) (by omega) (by omega)
      have m4 := Gq_pos h1 h2 P
      exact ⟨Nat.le_refl _, by show P + 1 ≤ P + 1 + 0; omega, Nat.le_refl _, by show 1 + 0 ≤ _; omega, by show 1 ≤ _; omega⟩)
    (fun P c R h => h.1)
  rw [hl] at h
  refine ⟨h.1, AllR.mono (fun P x R hx => ?_) _ _ h.2⟩
  obtain ⟨⟨P0, g0, ⟨a1, a2, a3, a4, a5⟩, b1, b2, b3⟩, hb⟩ := hx
  simp only at a1 a2 a3 a4 a5
  refine ⟨⟨by omega, by omega, by omega, ?_⟩, hb⟩
  rcases b3 with ⟨c1, c2, c3, c4, c5⟩ | ⟨c, Rc, ⟨c1, c2, c3, c4, c5⟩, d1, d2⟩
  · exact ⟨1, Nat.le_refl _, c3, by omega, by simp only [Nat.add_sub_cancel]; exact c4⟩
  · exact ⟨c.g, c3, d1, c5, d2⟩

theorem stage3 (k : Nat) (h1 : 1 ≤ k) (h2 : k ≤ 15) (B1 B2 B3 : List Nat) (hl : B1.length = 500) (hs : B1.Pairwise (· < ·)) (hl2 : B2.length = 500) (hs2 : B2.Pairwise (· < ·)) (hd : ∀ b ∈ B2, b ∉ B1)
    (hl3 : B3.length ≤ 200) (hs3 : B3.Pairwise (· < ·)) (hd3 : ∀ b ∈ B3, b ∉ B1 ++ B2) :
    Tells (flush k (flush k (flush k [] 0 B1) 500 B2) 1000 B3) (B1 ++ B2 ++ B3) ∧
      AllR (J5 k (1000 + B3.length)) (B1 ++ B2 ++ B3) 0 (flush k (flush k (flush k [] 0 B1) 500 B2) 1000 B3) := by
  obtain ⟨T, A⟩ := stage2 k h1 h2 B1 B2 hl hs (by omega) hs2 hd
  have hX : (B1 ++ B2).length = 1000 := by simp; omega
  rw [hl2] at A
  have h := flush_step k _ (fun P e R => J5 k (1000 + B3.length) P e R) _ (B1 ++ B2) B3 T A (fun P c R h => h.1.1) hs3 hd3
    (by intro h; have := congrArg List.length h; rw [List.length_append] at this; simp only [List.length_nil] at this; omega)
    (fun P c R j hj h _ => by
      obtain ⟨⟨a1, a2, a3, c0, c1, c2, c3, c4⟩, a5⟩ := h
      have m1 := Fq_mono h1 h2 (P + c0 - 1) (500 + 500) j (by omega)
      have m2 := Fq_n h1 h2 (P + c0 - 1 + j) (500 + 500 + j) (B3.length - j) (by omega)
      rw [show 500 + 500 + j + (B3.length - j) = 1000 + B3.length by omega] at m2
      exact ⟨a3, by omega, by omega, Or.inl (by omega), c0, c1, c2, by rw [show P + j + c0 - 1 = P + c0 - 1 + j by omega]; omega⟩)
    (fun P c R j b R' hj h _ e1 e2 => by
      obtain ⟨⟨a1, a2, a3, c0, c1, c2, c3, c4⟩, a5⟩ := h
      have m1 := Fq_mono h1 h2 (P + c0 - 1) (500 + 500) j (by omega)
      have m2 := Fq_n h1 h2 (P + j) (1000 + j) (B3.length - j) (by omega)
      rw [show 1000 + j + (B3.length - j) = 1000 + B3.length by omega] at m2
      have m3 := Gq_mono h1 h2 P j
      have m5 := Fq_pos h1 h2 (P + j) (1000 + j) (by omega) (by omega)
      rw [hX]
      refine ⟨Nat.le_refl _, by show P + j + 1 ≤ R'; omega, by show P + j + 1 ≤ _; omega, Or.inr ⟨c0, 1000 + j, c1, ?_, by omega, by omega, by show P + j + 1 ≤ _; omega, ?_, ?_⟩, 1, Nat.le_refl _, Nat.le_refl _, ?_⟩
      · show c0 ≤ Gq k (P + j + 1 - 1); rw [Nat.add_sub_cancel]; omega
      · show R' + 1 ≤ P + j + 1 + Fq k (P + j + 1 - 1 + c0 - 1) (1000 + j)
        rw [show P + j + 1 - 1 + c0 - 1 = P + c0 - 1 + j by omega, show 1000 + j = 500 + 500 + j by omega]; omega
      · show Fq k (P + j + 1 - 1) (1000 + j) ≤ Fq k (P + j) (1000 + j) - 1 + 1
        rw [Nat.add_sub_cancel]; omega
      · show 1 + (Fq k (P + j) (1000 + j) - 1) ≤ Fq k (P + j + 1 - 1) _
        rw [Nat.add_sub_cancel]; omega)
    (fun P b hP => by
      rw [hX] at hP
      have m5 := Fq_pos h1 h2 P (1000 + B3.length) (by omega) (by omega)
      exact ⟨Nat.le_refl _, Nat.le_refl _, by show P + 1 ≤ _; omega, Or.inl (by show P + 1 ≤ P + 1 + 0; omega), 1, Nat.le_refl _, Nat.le_refl _, by show 1 + 0 ≤ Fq k (P + 1 - 1) _; rw [Nat.add_sub_cancel]; omega⟩)
    (fun P c R h => h.2.1)
  rw [hX] at h
  refine ⟨h.1, AllR.mono (fun P x R hx => ?_) _ _ h.2⟩
  obtain ⟨⟨P0, g0, ⟨a1, a2, a3, a4, a5⟩, b1, b2, b3⟩, hb⟩ := hx
  simp only at a1 a2 a3 a4 a5
  rw [b1] at a2 a4
  refine ⟨by omega, by omega, hb, a4, ?_⟩
  rcases b3 with ⟨_, _, _, _, c5⟩ | ⟨c, Rc, ⟨c1, _, _, _, _⟩, d1, d2⟩
  · exact c5
  · exact ⟨c.g, c1, d1, d2⟩

/-- WHAT IS TOLD BEHIND THE LAST FLUSH. -/
theorem told_ok (k n : Nat) (h1 : 1 ≤ k) (h2 : k ≤ 15) (hn : 500 ≤ n) (hn2 : n ≤ 1200) (X : List Nat) (hX : X.length = n) (p : Sm) (L : List Sm) (T : Tells (p :: L) X) (A : AllR (J5 k n) X 0 (p :: L)) :
    query (tq k n) p L 0 ∈ X ∧ 1600 * rk X (query (tq k n) p L 0) ≤ 100 * k * n + 96 * n + 7900 ∧ 100 * k * n ≤ 1600 * rk X (query (tq k n) p L 0) + 96 * n + 7900 := by
  obtain ⟨e, P, q1, q2, q3, q4, q5⟩ := query_spec _ X (tq k n) L p 0 true A (by simp)
  rw [q1]
  obtain ⟨b1, b2, b3, b4, b5⟩ := q2
  refine ⟨T.mem e q3, upper_ok k n P e.g e.d _ h1 h2 hn hn2 b1 b3 b4 b5 (q4.imp (fun h => h.2) id), ?_⟩
  rcases q5 with q5 | ⟨c, ⟨c1, c2, c3, c4, c5⟩, c6⟩
  · have := T.tot
    have : 100 * k * n ≤ 1600 * n := by rw [Nat.mul_assoc]; have := Nat.mul_le_mul_right n h2; omega
    omega
  · exact lower_ok k n P _ c.g c.d (P + e.g) h1 h2 hn hn2 b2 (by omega) (by omega) c1 c3 c5 c6

theorem two_ok (k : Nat) (h1 : 1 ≤ k) (h2 : k ≤ 15) (B1 B2 : List Nat) (hl : B1.length = 500) (hs : B1.Pairwise (· < ·)) (hl2 : B2.length ≤ 500) (hs2 : B2.Pairwise (· < ·)) (hd : ∀ b ∈ B2, b ∉ B1)
    (p : Sm) (L : List Sm) (hL : flush k (flush k [] 0 B1) 500 B2 = p :: L) (n : Nat) (hn : n = 500 + B2.length) :
    query (tq k n) p L 0 ∈ B1 ++ B2 ∧ 1600 * rk (B1 ++ B2) (query (tq k n) p L 0) ≤ 100 * k * n + 96 * n + 7900 ∧ 100 * k * n ≤ 1600 * rk (B1 ++ B2) (query (tq k n) p L 0) + 96 * n + 7900 := by
  obtain ⟨T, A⟩ := stage2 k h1 h2 B1 B2 hl hs hl2 hs2 hd
  rw [hL] at T A
  refine told_ok k n h1 h2 (by omega) (by omega) _ (by simp; omega) p L T (AllR.mono (fun P x R h => ?_) _ _ A)
  obtain ⟨⟨a1, a2, a3, c, c1, c2, c3, c4⟩, a5⟩ := h
  rw [← hn] at a5 c4
  exact ⟨a3, a1, a5, Or.inl a2, c, c1, c2, c4⟩

theorem three_ok (k : Nat) (h1 : 1 ≤ k) (h2 : k ≤ 15) (B1 B2 B3 : List Nat) (hl : B1.length = 500) (hs : B1.Pairwise (· < ·)) (hl2 : B2.length = 500) (hs2 : B2.Pairwise (· < ·)) (hd : ∀ b ∈ B2, b ∉ B1)
    (hl3 : B3.length ≤ 200) (hs3 : B3.Pairwise (· < ·)) (hd3 : ∀ b ∈ B3, b ∉ B1 ++ B2)
    (p : Sm) (L : List Sm) (hL : flush k (flush k (flush k [] 0 B1) 500 B2) 1000 B3 = p :: L) (n : Nat) (hn : n = 1000 + B3.length) :
    query (tq k n) p L 0 ∈ B1 ++ B2 ++ B3 ∧ 1600 * rk (B1 ++ B2 ++ B3) (query (tq k n) p L 0) ≤ 100 * k * n + 96 * n + 7900 ∧ 100 * k * n ≤ 1600 * rk (B1 ++ B2 ++ B3) (query (tq k n) p L 0) + 96 * n + 7900 := by
  obtain ⟨T, A⟩ := stage3 k h1 h2 B1 B2 B3 hl hs hl2 hs2 hd hl3 hs3 hd3
  rw [hL] at T A
  rw [← hn] at A
  exact told_ok k n h1 h2 (by omega) (by omega) _ (by simp; omega) p L T A
end Ckms
end Go.Proofs.YthcgojhfbcgaiaaGreatDoor
