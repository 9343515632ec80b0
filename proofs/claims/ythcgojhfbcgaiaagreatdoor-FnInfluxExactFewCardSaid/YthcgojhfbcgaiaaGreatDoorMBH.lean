/- The stream of targeted quantiles, on plain lists: its summary's ranks stay near the true ones through three flushes. Plain lemmas, no program. -/

namespace Go.Proofs.YthcgojhfbcgaiaaGreatDoor
namespace Ckms

structure Sm where
  v : Nat
  g : Nat
  d : Nat
deriving Inhabited, DecidableEq

def tot : List Sm → Nat
  | [] => 0
  | x :: L => x.g + tot L
theorem tot_append (a b : List Sm) : tot (a ++ b) = tot a + tot b := by
  induction a with
  | nil => simp [tot]
  | cons x a ih => simp [tot, ih]; omega

/-- How many of X are at most v. -/
def rk (X : List Nat) (v : Nat) : Nat := X.countP (· ≤ v)
theorem rk_append (X Y : List Nat) (v : Nat) : rk (X ++ Y) v = rk X v + rk Y v := by simp [rk]
theorem rk_mono (X : List Nat) {u v : Nat} (h : u ≤ v) : rk X u ≤ rk X v := by
  unfold rk
  induction X with
  | nil => simp
  | cons x X ih =>
    rw [List.countP_cons, List.countP_cons]
    by_cases hu : x ≤ u
    · simp [hu, show x ≤ v by omega]; exact ih
    · simp [hu]; omega
theorem rk_le (X : List Nat) (v : Nat) : rk X v ≤ X.length := List.countP_le_length
theorem rk_lt (X : List Nat) {u v : Nat} (h : u < v) (hv : v ∈ X) : rk X u + 1 ≤ rk X v := by
  unfold rk
  induction X with
  | nil => simp at hv
  | cons x X ih =>
    rw [List.countP_cons, List.countP_cons]
    rcases List.mem_cons.1 hv with rfl | hv
    · have := rk_mono X (u := u) (v := v) (by omega); unfold rk at this
      simp [show ¬ v ≤ u by omega]; exact this
    · have := ih hv
      by_cases hu : x ≤ u
      · simp [hu, show x ≤ v by omega]; exact this
      · simp [hu]; omega
theorem rk_all (X : List Nat) (v : Nat) (h : ∀ x ∈ X, x ≤ v) : rk X v = X.length := by
  unfold rk; rw [List.countP_eq_length]; simpa using h
theorem rk_none (X : List Nat) (v : Nat) (h : ∀ x ∈ X, v < x) : rk X v = 0 := by
  unfold rk; rw [List.countP_eq_zero]; intro x hx; have := h x hx; simp; omega

/-- The merge of a sorted batch into the summary. -/
def merge (F : Nat → Nat → Nat) : List Sm → List Nat → Nat → Nat → List Sm
  | L, [], _, _ => L
  | [], b :: bs, r, n => ⟨b, 1, 0⟩ :: merge F [] bs (r + 1) (n + 1)
  | c :: L, b :: bs, r, n => if b < c.v then ⟨b, 1, F r n - 1⟩ :: merge F (c :: L) bs (r + 1) (n + 1) else c :: merge F L (b :: bs) (r + c.g) n
termination_by L bs => L.length + bs.length

/-- The compression: from the right, x the last one, rest what is left of it (nearest first), acc what stands behind x. -/
def comp (F : Nat → Nat → Nat) (n : Nat) (x : Sm) : List Sm → List Sm → List Sm
  | [], acc => x :: acc
  | c :: rest, acc => if c.g + x.g + x.d ≤ F (tot (c :: rest) - 1) n then comp F n ⟨x.v, x.g + c.g, x.d⟩ rest acc else comp F n c rest (x :: acc)

def compress (F : Nat → Nat → Nat) (n : Nat) (L : List Sm) : List Sm :=
  match L.reverse with
  | [] => []
  | x :: rest => comp F n x rest []

/-- The query. -/
def query (t : Nat) (p : Sm) : List Sm → Nat → Nat
  | [], _ => p.v
  | c :: L, r => if t < r + p.g + c.g + c.d then p.v else query t c L (r + p.g)

/-- Each element, its place (the sum of the widths before it) and its rank. -/
def AllR (I : Nat → Sm → Nat → Prop) (X : List Nat) : Nat → List Sm → Prop
  | _, [] => True
  | P, x :: L => I P x (rk X x.v) ∧ AllR I X (P + x.g) L

theorem AllR.append {I X} : ∀ (a b : List Sm) (P : Nat), AllR I X P (a ++ b) ↔ AllR I X P a ∧ AllR I X (P + tot a) b
  | [], b, P => by simp [AllR, tot]
  | x :: a, b, P => by
    have := AllR.append (I := I) (X := X) a b (P + x.g)
    simp only [List.cons_append, AllR, tot, this, and_assoc]
    rw [Nat.add_assoc]
theorem AllR.mono {I J X} (h : ∀ P x R, I P x R → J P x R) : ∀ (L : List Sm) (P : Nat), AllR I X P L → AllR J X P L
  | [], _, _ => trivial
  | _ :: L, _, ⟨a, b⟩ => ⟨h _ _ _ a, AllR.mono h L _ b⟩

def Sorted (L : List Sm) : Prop := L.Pairwise (fun a b => a.v < b.v)

/-- What merge keeps: tot, order, values. -/
theorem merge_tot (F) : ∀ (L : List Sm) (bs : List Nat) (r n : Nat), tot (merge F L bs r n) = tot L + bs.length := by
  intro L bs r n
  fun_induction merge F L bs r n with
  | case1 => simp
  | case2 b bs r n ih => simp [tot, ih]; omega
  | case3 c L b bs r n h ih => simp [tot, ih]; omega
  | case4 c L b bs r n h ih => simp only [tot, ih, List.length_cons]; omega

theorem merge_mem (F) : ∀ (L : List Sm) (bs : List Nat) (r n : Nat) (x : Sm), x ∈ merge F L bs r n → x ∈ L ∨ x.v ∈ bs := by
  intro L bs r n
  fun_induction merge F L bs r n with
  | case1 => intro x hx; exact Or.inl hx
  | case2 b bs r n ih =>
    intro x hx
    rcases List.mem_cons.1 hx with rfl | hx
    · exact Or.inr (by simp)
    · rcases ih x hx with h | h
      · simp at h
      · exact Or.inr (List.mem_cons_of_mem _ h)
  | case3 c L b bs r n h ih =>
    intro x hx
    rcases List.mem_cons.1 hx with rfl | hx
    · exact Or.inr (by simp)
    · rcases ih x hx with h | h
      · exact Or.inl h
      · exact Or.inr (List.mem_cons_of_mem _ h)
  | case4 c L b bs r n h ih =>
    intro x hx
    rcases List.mem_cons.1 hx with rfl | hx
    · exact Or.inl (by simp)
    · rcases ih x hx with h | h
      · exact Or.inl (List.mem_cons_of_mem _ h)
      · exact Or.inr h

theorem merge_sorted (F) : ∀ (L : List Sm) (bs : List Nat) (r n : Nat), Sorted L → bs.Pairwise (· < ·) → (∀ x ∈ L, x.v ∉ bs) → Sorted (merge F L bs r n) := by
  intro L bs r n
  fun_induction merge F L bs r n with
  | case1 => intro h _ _; exact h
  | case2 b bs r n ih =>
    intro _ h2 _
    have h2' := List.pairwise_cons.1 h2
    refine List.pairwise_cons.2 ⟨fun x hx => ?_, ih List.Pairwise.nil h2'.2 (by simp)⟩
    rcases merge_mem F _ _ _ _ x hx with h | h
    · simp at h
    · exact h2'.1 _ h
  | case3 c L b bs r n h ih =>
    intro h1 h2 h3
    have h2' := List.pairwise_cons.1 h2
    have h1' := List.pairwise_cons.1 h1
    refine List.pairwise_cons.2 ⟨fun x hx => ?_, ih h1 h2'.2 (fun x hx hb => h3 x hx (List.mem_cons_of_mem _ hb))⟩
    rcases merge_mem F _ _ _ _ x hx with h' | h'
    · rcases List.mem_cons.1 h' with rfl | h'
      · exact h
      · exact Nat.lt_trans h (h1'.1 _ h')
    · exact h2'.1 _ h'
  | case4 c L b bs r n h ih =>
    intro h1 h2 h3
    have h2' := List.pairwise_cons.1 h2
    have h1' := List.pairwise_cons.1 h1
    have hcb : c.v < b := by
      have : c.v ≠ b := fun e => h3 c (by simp) (by simp [e])
      omega
    refine List.pairwise_cons.2 ⟨fun x hx => ?_, ih h1'.2 h2 (fun x hx hb => h3 x (List.mem_cons_of_mem _ hx) hb)⟩
    rcases merge_mem F _ _ _ _ x hx with h' | h'
    · exact h1'.1 _ h'
    · rcases List.mem_cons.1 h' with e | h'
      · rw [e]; exact hcb
      · exact Nat.lt_trans hcb (h2'.1 _ h')

/-- THE MERGE, ELEMENT BY ELEMENT: an old one is moved on by the new ones before it; a new one lies before an old one, or behind all. -/
theorem merge_ranks (F) (I J : Nat → Sm → Nat → Prop) (X : List Nat) (m : Nat)
    (ha : ∀ P c R k, k ≤ m → I P c R → J (P + k) c (R + k))
    (hb : ∀ P c R k b R', k < m → I P c R → P + k + 1 ≤ R' → R' ≤ R + k → J (P + k) ⟨b, 1, F (P + k) (X.length + k) - 1⟩ R')
    (hc : ∀ P b, P < X.length + m → J P ⟨b, 1, 0⟩ (P + 1)) :
    ∀ (L : List Sm) (bs : List Nat) (r n : Nat) (cs : List Nat) (P : Nat), r = P + cs.length → n = X.length + cs.length → cs.length + bs.length = m →
      Sorted L → bs.Pairwise (· < ·) → (∀ x ∈ cs, ∀ b ∈ bs, x < b) → (∀ x ∈ cs, ∀ c ∈ L, x < c.v) → (∀ c ∈ L, c.v ∈ X) → (∀ b ∈ bs, b ∉ X) →
      AllR I X P L → P + tot L = X.length → (∀ b ∈ bs, P ≤ rk X b) → (∀ b ∈ bs, (∀ c ∈ L, c.v < b) → rk X b = X.length) →
      (∀ P c, AllR I X P [c] → P + c.g ≤ rk X c.v) →
      AllR J (X ++ (cs ++ bs)) r (merge F L bs r n) := by
  intro L bs r n
  fun_induction merge F L bs r n with
  | case1 L r n =>
    intro cs P hr hn hm hs _ _ hcs hLX _ hI ht _ _ _
    subst hr
    clear hn
    induction L generalizing P with
    | nil => trivial
    | cons c L ih =>
      have hs' := List.pairwise_cons.1 hs
      refine ⟨?_, ?_⟩
      · rw [rk_append, List.append_nil, rk_all cs c.v (fun x hx => Nat.le_of_lt (hcs x hx c (by simp)))]
        exact ha _ _ _ _ (by simp at hm; omega) hI.1
      · have := ih (P + c.g) hs'.2 (fun x hx y hy => hcs x hx y (List.mem_cons_of_mem _ hy)) (fun y hy => hLX y (List.mem_cons_of_mem _ hy)) hI.2 (by simp [tot] at ht; omega) (by simp) (by simp)
        rw [show P + cs.length + c.g = P + c.g + cs.length by omega]
        exact this
  | case2 b bs r n ih =>
    intro cs P hr hn hm hs hp hcb hcl hLX hbX hI ht hP hend hlow
    have hp' := List.pairwise_cons.1 hp
    have hrk : rk (X ++ (cs ++ b :: bs)) b = r + 1 := by
      rw [rk_append, rk_append, hend b (by simp) (by simp), rk_all cs b (fun x hx => Nat.le_of_lt (hcb x hx b (by simp)))]
      have : rk (b :: bs) b = 1 := by
        have h0 := rk_none bs b hp'.1
        unfold rk at h0 ⊢; rw [List.countP_cons, h0]; simp
      rw [this]; simp [tot] at ht; omega
    refine ⟨by show J r _ (rk _ b); rw [hrk]; exact hc _ _ (by simp [tot] at ht hm; omega), ?_⟩
    have := ih (cs ++ [b]) P (by simp; omega) (by simp; omega) (by simp at hm ⊢; omega) hs hp'.2
      (by intro x hx y hy; rcases List.mem_append.1 hx with h | h
          · exact hcb x h y (List.mem_cons_of_mem _ hy)
          · simp at h; subst h; exact hp'.1 y hy)
      (by simp) (by simp) (fun y hy => hbX y (List.mem_cons_of_mem _ hy)) hI ht (fun y hy => hP y (List.mem_cons_of_mem _ hy)) (fun y hy h => hend y (List.mem_cons_of_mem _ hy) h) hlow
    simpa using this
  | case3 c L b bs r n h ih =>
    intro cs P hr hn hm hs hp hcb hcl hLX hbX hI ht hP hend hlow
    have hp' := List.pairwise_cons.1 hp
    have hs' := List.pairwise_cons.1 hs
    have h1 : rk (b :: bs) b = 1 := by
      have h0 := rk_none bs b hp'.1
      unfold rk at h0 ⊢; rw [List.countP_cons, h0]; simp
    have hrk : rk (X ++ (cs ++ b :: bs)) b = rk X b + cs.length + 1 := by
      rw [rk_append, rk_append, rk_all cs b (fun x hx => Nat.le_of_lt (hcb x hx b (by simp))), h1]; omega
    have hlt := rk_lt X h (hLX c (by simp))
    have hPb := hP b (by simp)
    refine ⟨?_, ?_⟩
    · show J r _ (rk _ b)
      rw [hrk, hr, hn]
      exact hb P c _ _ b _ (by simp at hm; omega) hI.1 (by omega) (by omega)
    · have := ih (cs ++ [b]) P (by simp; omega) (by simp; omega) (by simp at hm ⊢; omega) hs hp'.2
        (by intro x hx y hy; rcases List.mem_append.1 hx with h | h
            · exact hcb x h y (List.mem_cons_of_mem _ hy)
            · simp at h; subst h; exact hp'.1 y hy)
        (by intro x hx y hy; rcases List.mem_append.1 hx with h' | h'
            · exact hcl x h' y hy
            · simp at h'; subst h'
              rcases List.mem_cons.1 hy with rfl | hy
              · exact h
              · exact Nat.lt_trans h (hs'.1 y hy))
        hLX (fun y hy => hbX y (List.mem_cons_of_mem _ hy)) hI ht (fun y hy => hP y (List.mem_cons_of_mem _ hy)) (fun y hy h => hend y (List.mem_cons_of_mem _ hy) h) hlow
      simpa using this
  | case4 c L b bs r n h ih =>
    intro cs P hr hn hm hs hp hcb hcl hLX hbX hI ht hP hend hlow
    have hp' := List.pairwise_cons.1 hp
    have hs' := List.pairwise_cons.1 hs
    have hcb' : c.v < b := by
      have : c.v ≠ b := fun e => hbX b (by simp) (e ▸ hLX c (by simp))
      omega
    have hcall : ∀ y ∈ b :: bs, c.v < y := fun y hy => by
      rcases List.mem_cons.1 hy with rfl | hy
      · exact hcb'
      · exact Nat.lt_trans hcb' (hp'.1 y hy)
    refine ⟨?_, ?_⟩
    · rw [rk_append, rk_append, rk_all cs c.v (fun x hx => Nat.le_of_lt (hcl x hx c (by simp))), rk_none (b :: bs) c.v hcall, hr]
      exact ha _ _ _ _ (by simp at hm; omega) hI.1
    · exact ih cs (P + c.g) (by omega) hn hm hs'.2 hp hcb (fun x hx y hy => hcl x hx y (List.mem_cons_of_mem _ hy)) (fun y hy => hLX y (List.mem_cons_of_mem _ hy)) hbX hI.2
        (by simp [tot] at ht; omega)
        (fun y hy => Nat.le_trans (hlow P c ⟨hI.1, trivial⟩) (rk_mono X (Nat.le_of_lt (hcall y hy))))
        (fun y hy h' => hend y hy (fun z hz => by rcases List.mem_cons.1 hz with rfl | hz; · exact hcall y hy
                                                  · exact h' z hz)) hlow

theorem AllR.bound {I X} : ∀ (L : List Sm) (P : Nat), AllR I X P L → AllR (fun P' x R => I P' x R ∧ P' + x.g ≤ P + tot L) X P L
  | [], _, _ => trivial
  | x :: L, P, ⟨a, b⟩ => ⟨⟨a, by simp [tot]⟩, AllR.mono (fun P' y R h => ⟨h.1, by have := h.2; simp [tot]; omega⟩) L _ (AllR.bound L _ b)⟩

theorem tot_reverse (L : List Sm) : tot L.reverse = tot L := by
  induction L with
  | nil => rfl
  | cons x L ih => simp [tot_append, tot, ih]; omega

theorem comp_tot (F n) : ∀ (rest : List Sm) (x : Sm) (acc : List Sm), tot (comp F n x rest acc) = tot rest + x.g + tot acc
  | [], x, acc => by simp [comp, tot]
  | c :: rest, x, acc => by
    rw [comp]
    split
    · rw [comp_tot F n rest]; simp [tot]; omega
    · rw [comp_tot F n rest]; simp [tot]; omega

theorem comp_sub (F n) : ∀ (rest : List Sm) (x : Sm) (acc : List Sm), ((comp F n x rest acc).map (·.v)).Sublist ((rest.reverse ++ x :: acc).map (·.v))
  | [], x, acc => by simp [comp]
  | c :: rest, x, acc => by
    rw [comp]
    split
    · refine (comp_sub F n rest _ acc).trans ?_
      simp only [List.map_append, List.map_cons, List.reverse_cons, List.append_assoc, List.cons_append, List.nil_append]
      exact List.Sublist.append_left (List.sublist_cons_self _ _) _
    · refine (comp_sub F n rest _ _).trans ?_
      simp

theorem comp_ne (F n) : ∀ (rest : List Sm) (x : Sm) (acc : List Sm), comp F n x rest acc ≠ []
  | [], x, acc => by simp [comp]
  | c :: rest, x, acc => by
    rw [comp]
    split
    · exact comp_ne F n rest _ _
    · exact comp_ne F n rest _ _

/-- What holds of an element behind the compression: it was there with the same place of its end, and it is as it was, or it swallowed one that lay at its place. -/
def Merged (F : Nat → Nat → Nat) (n : Nat) (I : Nat → Sm → Nat → Prop) (P : Nat) (x : Sm) (R : Nat) : Prop :=
  ∃ P0 g0, I P0 ⟨x.v, g0, x.d⟩ R ∧ P0 + g0 = P + x.g ∧ g0 ≤ x.g ∧ (I P x R ∨ ∃ c Rc, I P c Rc ∧ c.g ≤ x.g ∧ x.g + x.d ≤ F (P + c.g - 1) n)

theorem comp_ranks (F n) (I : Nat → Sm → Nat → Prop) (X : List Nat) : ∀ (rest : List Sm) (x : Sm) (acc : List Sm),
    AllR I X 0 rest.reverse → Merged F n I (tot rest) x (rk X x.v) → AllR (Merged F n I) X (tot rest + x.g) acc → AllR (Merged F n I) X 0 (comp F n x rest acc)
  | [], x, acc => fun _ hx ha => ⟨hx, ha⟩
  | c :: rest, x, acc => fun hr hx ha => by
    rw [List.reverse_cons, AllR.append, Nat.zero_add, tot_reverse] at hr
    have hc : I (tot rest) c (rk X c.v) := hr.2.1
    rw [comp]
    split
    · rename_i hle
      obtain ⟨P0, g0, h1, h2, h3, h4⟩ := hx
      refine comp_ranks F n I X rest _ acc hr.1 ⟨P0, g0, h1, ?_, ?_, Or.inr ⟨c, _, hc, ?_, ?_⟩⟩ ?_
      · rw [h2]; simp [tot]; omega
      · show g0 ≤ x.g + c.g; omega
      · show c.g ≤ x.g + c.g; omega
      · show x.g + c.g + x.d ≤ _
        have e : tot (c :: rest) - 1 = tot rest + c.g - 1 := by simp [tot]; omega
        rw [← e]; omega
      · have e : tot (c :: rest) + x.g = tot rest + (x.g + c.g) := by simp [tot]; omega
        rw [← e]; exact ha
    · refine comp_ranks F n I X rest c (x :: acc) hr.1 ⟨tot rest, c.g, hc, rfl, Nat.le_refl _, Or.inl hc⟩ ?_
      have e : tot (c :: rest) = tot rest + c.g := by simp [tot]; omega
      rw [← e]
      exact ⟨hx, ha⟩

theorem compress_ranks (F n) (I : Nat → Sm → Nat → Prop) (X : List Nat) (L : List Sm) (h : AllR I X 0 L) : AllR (Merged F n I) X 0 (compress F n L) := by
  unfold compress
  split
  · trivial
  · rename_i x rest he
    have hL : L = rest.reverse ++ [x] := by rw [← List.reverse_reverse L, he]; simp
    rw [hL, AllR.append, Nat.zero_add, tot_reverse] at h
    exact comp_ranks F n I X rest x [] h.1 ⟨tot rest, x.g, h.2.1, rfl, Nat.le_refl _, Or.inl h.2.1⟩ trivial
theorem compress_tot (F n) (L : List Sm) : tot (compress F n L) = tot L := by
  unfold compress
  split
  · rename_i he; have : L = [] := by simpa using he
    subst this; rfl
  · rename_i x rest he
    rw [comp_tot, ← tot_reverse L, he]; simp [tot]; omega
theorem compress_sub (F n) (L : List Sm) : ((compress F n L).map (·.v)).Sublist (L.map (·.v)) := by
  unfold compress
  split
  · simp
  · rename_i x rest he
    have hL : L = rest.reverse ++ [x] := by rw [← List.reverse_reverse L, he]; simp
    rw [hL]
    exact comp_sub F n rest x []
theorem compress_ne (F n) (L : List Sm) (h : L ≠ []) : compress F n L ≠ [] := by
  unfold compress
  split
  · rename_i he; have : L = [] := by simpa using he
    exact absurd this h
  · exact comp_ne F n _ _ _
theorem compress_sorted (F n) (L : List Sm) (h : Sorted L) : Sorted (compress F n L) := by
  have h' : (L.map (·.v)).Pairwise (· < ·) := List.pairwise_map.2 h
  exact List.pairwise_map.1 (h'.sublist (compress_sub F n L))
theorem compress_mem (F n) (L : List Sm) (x : Sm) (h : x ∈ compress F n L) : ∃ y ∈ L, y.v = x.v := by
  have := (compress_sub F n L).subset (List.mem_map_of_mem h)
  simpa using this

theorem query_spec (J : Nat → Sm → Nat → Prop) (X : List Nat) (t : Nat) : ∀ (L : List Sm) (p : Sm) (r : Nat) (first : Bool), AllR J X r (p :: L) → (first = false → r + p.g + p.d ≤ t) →
    ∃ e P, query t p L r = e.v ∧ J P e (rk X e.v) ∧ e ∈ p :: L ∧ ((first = true ∧ P = r) ∨ P + e.g + e.d ≤ t) ∧ (P + e.g = r + tot (p :: L) ∨ ∃ c, J (P + e.g) c (rk X c.v) ∧ t < P + e.g + c.g + c.d)
  | [], p, r, first => fun h hf => ⟨p, r, rfl, h.1, by simp, by cases first; · exact Or.inr (hf rfl)
                                                                · exact Or.inl ⟨rfl, rfl⟩, Or.inl (by simp [tot])⟩
  | c :: L, p, r, first => fun h hf => by
    rw [query]
    split
    · rename_i ht
      exact ⟨p, r, rfl, h.1, by simp, by cases first; · exact Or.inr (hf rfl)
                                         · exact Or.inl ⟨rfl, rfl⟩, Or.inr ⟨c, h.2.1, ht⟩⟩
    · rename_i ht
      obtain ⟨e, P, h1, h2, h3, h4, h5⟩ := query_spec J X t L c (r + p.g) false h.2 (fun _ => by omega)
      refine ⟨e, P, h1, h2, List.mem_cons_of_mem _ h3, ?_, ?_⟩
      · rcases h4 with h4 | h4
        · exact absurd h4.1 (by simp)
        · exact Or.inr h4
      · rcases h5 with h5 | h5
        · left; rw [h5]; simp [tot]; omega
        · exact Or.inr h5
end Ckms
end Go.Proofs.YthcgojhfbcgaiaaGreatDoor
