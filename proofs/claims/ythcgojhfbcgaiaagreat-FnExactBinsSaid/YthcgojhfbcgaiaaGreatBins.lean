/- A histogram's bins on plain lists: counts and sums, their means going up. Plain lemmas, no program. -/
namespace Go.Proofs.YthcgojhfbcgaiaaGreat
namespace Bn

structure B where
  c : Nat
  s : Nat
deriving Inhabited, DecidableEq

/-- The first one's mean is less. -/
def lt (a b : B) : Prop := a.s * b.c < b.s * a.c
def join (a b : B) : B := ⟨a.c + b.c, a.s + b.s⟩
theorem lt_join {x a b : B} (h1 : lt x a) (h2 : lt x b) : lt x (join a b) := by
  unfold lt join at *
  show x.s * (a.c + b.c) < (a.s + b.s) * x.c
  rw [Nat.mul_add, Nat.add_mul]; omega
theorem join_lt {x a b : B} (h1 : lt a x) (h2 : lt b x) : lt (join a b) x := by
  unfold lt join at *
  show (a.s + b.s) * x.c < x.s * (a.c + b.c)
  rw [Nat.mul_add, Nat.add_mul]; omega
/-- A value that is not more than a mean is less than a greater mean. -/
theorem one_lt {a z : B} {f : Nat} (h : f * a.c ≤ a.s) (h1 : lt a z) : lt ⟨1, f⟩ z := by
  unfold lt at *
  show f * z.c < z.s * 1
  rw [Nat.mul_one]
  rcases Nat.lt_or_ge (f * z.c) z.s with h2 | h2
  · exact h2
  · exfalso
    have a1 : z.s * a.c ≤ f * z.c * a.c := Nat.mul_le_mul_right _ h2
    have a2 : f * a.c * z.c ≤ a.s * z.c := Nat.mul_le_mul_right _ h
    have e : f * z.c * a.c = f * a.c * z.c := by rw [Nat.mul_assoc, Nat.mul_assoc, Nat.mul_comm z.c]
    omega

structure Inv (L : List B) (n t : Nat) : Prop where
  pos : ∀ b ∈ L, 1 ≤ b.c
  ord : L.Pairwise lt
  cnt : (L.map (·.c)).sum = n
  sum : (L.map (·.s)).sum = t

theorem Inv.nil : Inv [] 0 0 := ⟨by simp, .nil, rfl, rfl⟩
theorem Inv.put {A Z : List B} {a b : B} {n t : Nat} (h : Inv (A ++ a :: Z) n t) (h1 : ∀ x ∈ A, lt x b) (h2 : ∀ z ∈ Z, lt b z) : Inv (A ++ join a b :: Z) (n + b.c) (t + b.s) := by
  obtain ⟨p, o, c, s⟩ := h
  rw [List.pairwise_append] at o
  obtain ⟨o1, o2, o3⟩ := o
  rw [List.pairwise_cons] at o2
  refine ⟨fun x hx => ?_, ?_, ?_, ?_⟩
  · simp at hx
    rcases hx with hx | rfl | hx
    · exact p x (by simp [hx])
    · have := p a (by simp); show 1 ≤ a.c + b.c; omega
    · exact p x (by simp [hx])
  · rw [List.pairwise_append]
    refine ⟨o1, List.pairwise_cons.2 ⟨fun z hz => join_lt (o2.1 z hz) (h2 z hz), o2.2⟩, fun x hx z hz => ?_⟩
    rcases List.mem_cons.1 hz with rfl | hz
    · exact lt_join (o3 x hx a (by simp)) (h1 x hx)
    · exact o3 x hx z (List.mem_cons_of_mem _ hz)
  · simp [join] at c ⊢; omega
  · simp [join] at s ⊢; omega
theorem Inv.upd {A Z : List B} {a : B} {n t f : Nat} (h : Inv (A ++ a :: Z) n t) (h1 : ∀ x ∈ A, ¬ f * x.c ≤ x.s) (h2 : f * a.c ≤ a.s) : Inv (A ++ join a ⟨1, f⟩ :: Z) (n + 1) (t + f) := by
  refine h.put (b := ⟨1, f⟩) (fun x hx => ?_) fun z hz => one_lt h2 ?_
  · have := h1 x hx
    unfold lt
    show x.s * 1 < f * x.c
    omega
  · have := (List.pairwise_append.1 h.ord).2.1
    exact (List.pairwise_cons.1 this).1 z hz
theorem Inv.push {A : List B} {n t f : Nat} (h : Inv A n t) (h1 : ∀ x ∈ A, ¬ f * x.c ≤ x.s) : Inv (A ++ [⟨1, f⟩]) (n + 1) (t + f) := by
  obtain ⟨p, o, c, s⟩ := h
  refine ⟨fun x hx => ?_, ?_, ?_, ?_⟩
  · simp at hx
    rcases hx with hx | rfl
    · exact p x hx
    · exact Nat.le_refl 1
  · rw [List.pairwise_append]
    refine ⟨o, List.pairwise_singleton _ _, fun x hx z hz => ?_⟩
    simp at hz; subst hz
    have := h1 x hx
    unfold lt
    show x.s * 1 < f * x.c
    omega
  · simp at c ⊢; omega
  · simp at s ⊢; omega
theorem Inv.merge {A Z : List B} {a b : B} {n t : Nat} (h : Inv (A ++ a :: b :: Z) n t) : Inv (A ++ join a b :: Z) n t := by
  obtain ⟨p, o, c, s⟩ := h
  rw [List.pairwise_append] at o
  obtain ⟨o1, o2, o3⟩ := o
  rw [List.pairwise_cons] at o2
  obtain ⟨o4, o5⟩ := o2
  rw [List.pairwise_cons] at o5
  refine ⟨fun x hx => ?_, ?_, ?_, ?_⟩
  · simp at hx
    rcases hx with hx | rfl | hx
    · exact p x (by simp [hx])
    · have := p a (by simp); show 1 ≤ a.c + b.c; omega
    · exact p x (by simp [hx])
  · rw [List.pairwise_append]
    refine ⟨o1, List.pairwise_cons.2 ⟨fun z hz => join_lt (o4 z (by simp [hz])) (o5.1 z hz), o5.2⟩, fun x hx z hz => ?_⟩
    rcases List.mem_cons.1 hz with rfl | hz
    · exact lt_join (o3 x hx a (by simp)) (o3 x hx b (by simp))
    · exact o3 x hx z (by simp [hz])
  · simp [join] at c ⊢; omega
  · simp [join] at s ⊢; omega

theorem sum_ge {α : Type} (f : α → Nat) {L : List α} {x : α} (h : x ∈ L) : f x ≤ (L.map f).sum := by
  induction L with
  | nil => cases h
  | cons y L ih =>
    rcases List.mem_cons.1 h with rfl | h
    · simp
    · have := ih h; simp; omega
theorem Inv.c_le {L : List B} {n t : Nat} (h : Inv L n t) {b : B} (hb : b ∈ L) : b.c ≤ n := by rw [← h.cnt]; exact sum_ge (·.c) hb
theorem Inv.s_le {L : List B} {n t : Nat} (h : Inv L n t) {b : B} (hb : b ∈ L) : b.s ≤ t := by rw [← h.sum]; exact sum_ge (·.s) hb
theorem len_le_sum {L : List B} (h : ∀ b ∈ L, 1 ≤ b.c) : L.length ≤ (L.map (·.c)).sum := by
  induction L with
  | nil => simp
  | cons y L ih => have := h y (by simp); have := ih (fun b hb => h b (by simp [hb])); simp; omega
theorem Inv.len_le {L : List B} {n t : Nat} (h : Inv L n t) : L.length ≤ n := by rw [← h.cnt]; exact len_le_sum h.pos

/-- A value comes in: it joins the first bin that it does not pass, or stands behind all. -/
def ins (f : Nat) : List B → List B
  | [] => [⟨1, f⟩]
  | b :: L => if f * b.c ≤ b.s then ⟨b.c + 1, b.s + f⟩ :: L else b :: ins f L
theorem ins_at (f : Nat) : ∀ (A : List B) (b : B) (Z : List B), (∀ a ∈ A, ¬ f * a.c ≤ a.s) → f * b.c ≤ b.s → ins f (A ++ b :: Z) = A ++ ⟨b.c + 1, b.s + f⟩ :: Z
  | [], b, Z, _, h => by simp [ins, h]
  | a :: A, b, Z, h1, h => by simp [ins, h1 a (by simp), ins_at f A b Z (fun x hx => h1 x (by simp [hx])) h]
theorem ins_end (f : Nat) : ∀ (A : List B), (∀ a ∈ A, ¬ f * a.c ≤ a.s) → ins f A = A ++ [⟨1, f⟩]
  | [], _ => rfl
  | a :: A, h1 => by simp [ins, h1 a (by simp), ins_end f A (fun x hx => h1 x (by simp [hx]))]
def insAll (g : Nat → Nat) : Nat → List B
  | 0 => []
  | k + 1 => ins (g k) (insAll g k)
/-- Values that do not fall: each different one is a bin of its own. -/
theorem insAll_last {g : Nat → Nat} {N : Nat} (h : ∀ i, i + 1 < N → g i ≤ g (i + 1)) : ∀ k, k + 1 ≤ N → ∃ A c, 1 ≤ c ∧ insAll g (k + 1) = A ++ [⟨c, c * g k⟩] ∧ (∀ a ∈ A, a.s < g k * a.c) ∧ A.length ≤ g k
  | 0, _ => ⟨[], 1, Nat.le_refl 1, by simp [insAll, ins], by simp, Nat.zero_le _⟩
  | k + 1, hk => by
    obtain ⟨A, c, h1, h2, h3, h4⟩ := insAll_last h k (by omega)
    have hg := h k hk
    rcases Nat.lt_or_eq_of_le hg with hlt | he
    · have hA : ∀ a ∈ A, a.s < g (k + 1) * a.c := fun a ha => Nat.lt_of_lt_of_le (h3 a ha) (Nat.mul_le_mul_right _ hg)
      have hc : c * g k < g (k + 1) * c := by rw [Nat.mul_comm c]; exact Nat.mul_lt_mul_of_pos_right hlt (by omega)
      refine ⟨A ++ [⟨c, c * g k⟩], 1, Nat.le_refl 1, ?_, ?_, by simp; omega⟩
      · show ins (g (k + 1)) (insAll g (k + 1)) = _
        rw [h2, ins_end, Nat.one_mul]
        intro a ha
        rcases List.mem_append.1 ha with ha | ha
        · have := hA a ha; omega
        · simp at ha; subst ha; show ¬ g (k + 1) * c ≤ c * g k; omega
      · intro a ha
        rcases List.mem_append.1 ha with ha | ha
        · exact hA a ha
        · simp at ha; subst ha; exact hc
    · refine ⟨A, c + 1, by omega, ?_, by rw [← he]; exact h3, by omega⟩
      show ins (g (k + 1)) (insAll g (k + 1)) = _
      rw [h2, ← he, ins_at (g k) A ⟨c, c * g k⟩ [] (fun a ha => by have := h3 a ha; omega) (by show g k * c ≤ c * g k; rw [Nat.mul_comm]; exact Nat.le_refl _)]
      rw [Nat.add_mul, Nat.one_mul]
theorem insAll_len {g : Nat → Nat} {N m : Nat} (h : ∀ i, i + 1 < N → g i ≤ g (i + 1)) (hm : ∀ i, i < N → g i < m) (k : Nat) (hk : k ≤ N) : (insAll g k).length ≤ m := by
  cases k with
  | zero => simp [insAll]
  | succ k =>
    obtain ⟨A, c, _, h2, _, h4⟩ := insAll_last h k hk
    rw [h2]
    have := hm k (by omega)
    simp; omega
end Bn
end Go.Proofs.YthcgojhfbcgaiaaGreat
