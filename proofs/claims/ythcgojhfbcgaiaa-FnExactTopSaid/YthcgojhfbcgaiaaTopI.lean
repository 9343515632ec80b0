/- impl.Top's parts: counts of what was told; the map of counts; the collecting of names. Conditions: the maps lie in memory. -/
import Derived.Test.YthcgojhfbcgaiaaTopH
namespace Go.Proofs.Ythcgojhfbcgaiaa
open Go.RowKit Go.Maps Go.Sort Go.Proofs

/-- The entries count what was told. -/
def Cnt (AL : List Ent) (ws : List Word) : Prop := (∀ x ∈ AL, x.2.2 = ws.count x.1 ∧ x.1 ∈ ws) ∧ ∀ s ∈ ws, s ∈ words AL
theorem Cnt.nil : Cnt [] [] := ⟨by simp, by simp⟩
theorem Cnt.step {AL AL' : List Ent} {ws : List Word} {s : Word} (h : Cnt AL ws) (hb : Bumped AL s AL') : Cnt AL' (ws ++ [s]) := by
  rcases hb with ⟨h1, rfl⟩ | ⟨h1, b, rfl⟩
  · refine ⟨fun x hx => ?_, fun t ht => ?_⟩
    · obtain ⟨y, hy, rfl⟩ := List.mem_map.1 hx
      have := h.1 y hy
      by_cases e : y.1 = s
      · rw [if_pos e]
        refine ⟨?_, by show y.1 ∈ _; simp [e]⟩
        show y.2.2 + 1 = _
        rw [this.1, List.count_append, e]; simp
      · rw [if_neg e]
        refine ⟨?_, by simp [this.2]⟩
        rw [this.1, List.count_append, List.count_singleton]
        have : (s == y.1) = false := by simpa using fun e' => e e'.symm
        simp [this]
    · have hw : words (bumpAt AL s) = words AL := by rw [← keysOf_words, ← keysOf_words, keysOf_bump]
      rw [hw]
      rcases List.mem_append.1 ht with ht | ht
      · exact h.2 t ht
      · simp at ht; subst ht; exact h1
  · refine ⟨fun x hx => ?_, fun t ht => ?_⟩
    · rcases List.mem_append.1 hx with hx | hx
      · have := h.1 x hx
        have e : x.1 ≠ s := fun e => h1 (e ▸ List.mem_map.2 ⟨x, hx, rfl⟩)
        refine ⟨?_, by simp [this.2]⟩
        rw [this.1, List.count_append, List.count_singleton]
        have : (s == x.1) = false := by simpa using fun e' => e e'.symm
        simp [this]
      · simp at hx; subst hx
        have hs : s ∉ ws := fun hs => h1 (h.2 s hs)
        refine ⟨?_, by simp⟩
        show 1 = _
        rw [List.count_append, List.count_eq_zero_of_not_mem hs]; simp
    · have hw : words (AL ++ [(s, b, 1)]) = words AL ++ [s] := by simp [words]
      rw [hw]
      rcases List.mem_append.1 ht with ht | ht
      · exact List.mem_append_left _ (h.2 t ht)
      · exact List.mem_append_right _ ht
theorem Cnt.len {AL : List Ent} {ws KW : List Word} (h : Cnt AL ws) (hn : (words AL).Nodup) (hK : ∀ s ∈ ws, s ∈ KW) : AL.length ≤ KW.length := by
  have := hn.length_le_of_subset (l₂ := KW) (fun s hs => by
    obtain ⟨x, hx, rfl⟩ := List.mem_map.1 hs
    exact hK _ (h.1 x hx).2)
  simpa [words] using this
theorem Str.nodup {w : World} {base t M Z k n : Nat} {D : Du} {AL : List Ent} (h : Str w base t M Z k n D AL) : (words AL).Nodup := by rw [← keysOf_words]; exact h.mp.nod

theorem ownsMap_at {w w' : World} {k : TypeId} {R : Value → Option (Du × List MemPlace)} {b n : Nat} {D : Du} (h : w.ownsMap Try.prog k R b n D) (e : w'.heap[b]? = w.heap[b]?) : w'.ownsMap Try.prog k R b n D := by
  obtain ⟨es, clock, hb, r⟩ := h
  exact ⟨es, clock, e.trans hb, r⟩
theorem grown_drew {w w' : World} {row : Option Nat} (h : w.grownBy w' row) : w.grownBy w'.drew row := ⟨h.os, h.tape, h.output, h.size, h.block⟩
theorem below_none {w w' : World} (h : RowKit.Below w.heap.size w w') : w.grownBy w' none := ⟨h.os, h.tape, h.output, h.size, fun k hk _ => h.block k hk⟩
theorem zeroI (w : World) : (zeroValue 3).run Try.prog w = .ok (.int .i64 0) w := by kernel_rfl
theorem info_S : (Try.prog.info? 9).map (fun i => (i.zero, i.size, i.bytes)) = some (some (.string ⟨#[]⟩), 1, 16) := by kernel_rfl
theorem info_I : (Try.prog.info? 3).map (fun i => (i.zero, i.size, i.bytes)) = some (some (.int .i64 0), 1, 8) := by kernel_rfl

/-- Of the words that are to come one is struck out. -/
theorem strikeW {R : List Word} (hn : R.Nodup) {x : Word} (_hx : x ∈ R) (s : Word) : decide (s ∈ R.erase x) = (decide (s ∈ R) && !(Lit.string s).sameKey (.string x)) := by
  have e : (Lit.string s).sameKey (.string x) = (s == x) := rfl
  rw [e]
  have hm := hn.mem_erase_iff (a := s) (b := x)
  by_cases e2 : s = x
  · have : ¬ s ∈ R.erase x := fun h => (hm.1 h).1 e2
    rw [decide_eq_false this]; simp [e2]
  · have : (s == x) = false := by simpa using e2
    rw [this]
    by_cases e3 : s ∈ R
    · rw [decide_eq_true (hm.2 ⟨e2, e3⟩), decide_eq_true e3]; rfl
    · rw [decide_eq_false (fun h => e3 (hm.1 h).2), decide_eq_false e3]; rfl
/-- What the loop that collects the names keeps. -/
structure ColN (w wr : World) (B n : Nat) (D : Du) (N CL R : List Word) (left : Lit → Bool) (cnt : Nat) (v : Value) : Prop where
  perm : (CL ++ R).Perm N
  lf : ∀ s, left (.string s) = decide (s ∈ R)
  rg : wr.ranges Try.prog 9 (plainElem Try.prog 3) B w.heap.size n D left cnt
  own : wr.ownsRow (w.heap.size + 1) 9 1 v CL.length (CL.map strV)
  below : RowKit.Below w.heap.size w wr
  sz : w.heap.size + 1 ≤ wr.heap.size
theorem ColN.slice {w wr : World} {B n : Nat} {D : Du} {N CL R : List Word} {left : Lit → Bool} {cnt : Nat} {v : Value} (h : ColN w wr B n D N CL R left cnt v) : ∃ oa c, v = .slice oa CL.length c := by
  rcases h.own.2 with ⟨h1, h2⟩ | ⟨g, cap, cur, h1, _⟩
  · exact ⟨none, 0, by rw [h1, h2]⟩
  · exact ⟨_, _, h1⟩
theorem ColN.step {w wr w1 w2 : World} {B n : Nat} {D : Du} {N CL R : List Word} {left : Lit → Bool} {cnt cnt' : Nat} {v v' : Value} (h : ColN w wr B n D N CL R left cnt v) (hN : N.Nodup) (hB : B < w.heap.size) {x : Word} (hx : x ∈ R)
    (hg : wr.grownBy w1 (some w.heap.size)) (hrg : w1.ranges Try.prog 9 (plainElem Try.prog 3) B w.heap.size n D (fun z => left z && !z.sameKey (.string x)) cnt') {O : Obj}
    (ho : w2.ownsRow (w.heap.size + 1) 9 1 v' (CL.length + 1) (CL.map strV ++ [strV x])) (hg2 : (w1.alloc O).grownBy w2 v.ownBlock) :
    ColN w w2 B n D N (CL ++ [x]) (R.erase x) (fun z => left z && !z.sameKey (.string x)) cnt' v' := by
  have hn : R.Nodup := by
    have h2 := h.perm.nodup_iff.2 hN
    exact (List.nodup_append.1 h2).2.1
  have hvb : ∀ q, v.ownBlock = some q → w.heap.size + 1 ≤ q := fun q hq => (h.own.lt q hq).1
  have hsz1 : w.heap.size + 1 ≤ w1.heap.size := Nat.le_trans h.sz hg.size
  have hb1 : RowKit.Below w.heap.size w w1 := h.below.grown hg (by have := h.sz; omega) fun q hq => by cases hq; exact Nat.le_refl _
  refine ⟨?_, fun s => ?_, (hrg.alloc O).kept hg2 (fun e => ?_) (fun e => ?_), ?_, (hb1.alloc (by omega) O).grown hg2 (by simp; omega) (fun q hq => by have := hvb q hq; omega), ?_⟩
  · have := List.perm_cons_erase hx
    refine List.Perm.trans ?_ h.perm
    rw [List.append_assoc]
    exact List.Perm.append_left CL (by simpa using this.symm)
  · show (left (.string s) && !(Lit.string s).sameKey (.string x)) = _
    rw [strikeW hn hx, h.lf]
  · have := hvb B e.symm; omega
  · have := hvb _ e.symm; omega
  · simpa using ho
  · have := hg2.size; simp at this; omega
/-- A permutation of images is an image of a permutation. -/
theorem perm_map_invT {α β : Type} (f : α → β) : ∀ {ys zs : List β}, ys.Perm zs → ∀ l : List α, zs = l.map f → ∃ l' : List α, l'.Perm l ∧ ys = l'.map f := by
  intro ys zs h
  induction h with
  | nil => intro l hl; exact ⟨l, .refl _, hl⟩
  | cons x h ih =>
    intro l hl
    cases l with
    | nil => simp at hl
    | cons a l =>
      simp only [List.map_cons, List.cons.injEq] at hl
      obtain ⟨l', h1, h2⟩ := ih l hl.2
      exact ⟨a :: l', h1.cons a, by rw [h2, hl.1]; simp⟩
  | swap x y t =>
    intro l hl
    match l, hl with
    | a :: b :: l, hl =>
      simp only [List.map_cons, List.cons.injEq] at hl
      exact ⟨b :: a :: l, .swap _ _ _, by rw [hl.1, hl.2.1, hl.2.2]; simp⟩
  | trans h1 h2 ih1 ih2 =>
    intro l hl
    obtain ⟨l2, p2, e2⟩ := ih2 l hl
    obtain ⟨l1, p1, e1⟩ := ih1 l2 e2
    exact ⟨l1, p1.trans p2, e1⟩
/-- What Query handed over, read element by element. -/
theorem QOut.ents {w w' : World} {base t M Z k n : Nat} {D : Du} {AL : List Ent} {oa : Option Addr} (h : QOut w w' AL oa) (hS : Str w base t M Z k n D AL) :
    ∃ EL : List Ent, EL.Perm AL ∧ ∀ i (hi : i < EL.length), ElAt w' EL[i].2.1 EL[i].1 EL[i].2.2 ∧ ∃ g, oa = some ⟨g, 0, none⟩ ∧ g < w'.heap.size ∧ w'.cell? ⟨g, i, none⟩ = some (.pointer (some ⟨EL[i].2.1, 0, none⟩)) := by
  obtain ⟨hb, L, hp, hc⟩ := h
  obtain ⟨EL, h1, rfl⟩ := perm_map_invT (fun x : Ent => x.2.1) hp AL rfl
  refine ⟨EL, h1, fun i hi => ⟨?_, ?_⟩⟩
  · have := hS.el EL[i] (h1.mem_iff.1 (List.getElem_mem hi))
    unfold ElAt
    rw [hb.block _ (lt_of_at this)]; exact this
  · obtain ⟨g, a, b, c⟩ := hc i (by simpa using hi)
    exact ⟨g, a, b, by simpa [ptrV] using c⟩
end Go.Proofs.Ythcgojhfbcgaiaa
