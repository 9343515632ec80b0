/- laws.sane, spec.Sorted. -/
import Derived.Test.YthcgojhfbcgaiaaVal0
import Derived.Test.YthcgojhfbcgaiaaFSortE
import Derived.Test.YthcgojhfbcgaiaaShelf
namespace Go.Proofs.Ythcgojhfbcgaiaa
open Go.RowKit Go.Sort Go.Proofs

theorem bits1 : (fN 1).b = 4607182418800017408 := by rw [fN_b 1 (by omega)]; decide +kernel
theorem bits2 : (fN 2).b = 4611686018427387904 := by rw [fN_b 2 (by omega)]; decide +kernel
theorem bits3 : (fN 3).b = 4613937818241073152 := by rw [fN_b 3 (by omega)]; decide +kernel

/-- Two rows of numbers in order, the one the other's permutation, are one. -/
theorem keys_one : ∀ {l m : List Nat}, l.Perm m → l.Pairwise (· ≤ ·) → m.Pairwise (· ≤ ·) → l = m
  | [], m, h, _, _ => (List.perm_nil.1 h.symm).symm
  | a :: l, [], h, _, _ => absurd (List.perm_nil.1 h) (by simp)
  | a :: l, b :: m, h, hl, hm => by
    have ha : a ∈ b :: m := h.subset (by simp)
    have hb : b ∈ a :: l := h.symm.subset (by simp)
    have e : a = b := by
      rcases List.mem_cons.1 ha with h1 | h1
      · exact h1
      · rcases List.mem_cons.1 hb with h2 | h2
        · exact h2.symm
        · have := (List.pairwise_cons.1 hl).1 b h2
          have := (List.pairwise_cons.1 hm).1 a h1
          omega
    subst e
    rw [keys_one ((List.perm_cons a).1 h) (List.pairwise_cons.1 hl).2 (List.pairwise_cons.1 hm).2]
theorem keys_of_smp {ys : List SmpF} (hs : ys.Pairwise (fun a b => ltSmp b a = false)) : (ys.map (·.v.b)).Pairwise (· ≤ ·) := by
  rw [List.pairwise_map]
  refine hs.imp fun {a b} h => ?_
  unfold ltSmp ltF at h
  have := of_decide_eq_false h
  omega
theorem get_keys (ys : List SmpF) (i : Nat) (h : i < ys.length) : ys[i]!.v.b = (ys.map (·.v.b))[i]! := by
  rw [getElem!_pos ys i h, getElem!_pos (ys.map (·.v.b)) i (by simpa using h)]; simp

/-- THE SANE STREAM's VALUES: three, one, two. -/
def sv (i : Nat) : FNN := fN (if i = 0 then 3 else if i = 1 then 1 else 2)

theorem sane_sorted (ys : List SmpF) (hp : ys.Perm (onesOf sv 3)) (hs : ys.Pairwise (fun a b => ltSmp b a = false)) : ys[placeOf 3 8]!.v.b = 4611686018427387904 := by
  have hk := hp.map (·.v.b)
  have e : (onesOf sv 3).map (·.v.b) = [4613937818241073152, 4607182418800017408, 4611686018427387904] := by
    show [(fN 3).b, (fN 1).b, (fN 2).b] = _
    rw [bits1, bits2, bits3]
  rw [e] at hk
  have h2 := keys_one (hk.trans (l₃ := [4607182418800017408, 4611686018427387904, 4613937818241073152]) (by decide)) (keys_of_smp hs) (by decide)
  have hl : ys.length = 3 := by rw [hp.length_eq, onesOf_len]
  rw [get_keys _ _ (by rw [hl]; decide), h2]
  decide

set_option maxRecDepth 100000 in
theorem sane_calls (w : World) : Calls Try.prog 8 #[] w fun e w' => e = .returned (.bool true) ∧ RowKit.Below w.heap.size w w' := by
  have hf : FloatsAt (w.alloc (.cells #[.float .f64 4613937818241073152, .float .f64 4607182418800017408, .float .f64 4611686018427387904] 26)) w.heap.size 3 sv := by
    intro i hi
    refine cell_of (hp_at w _ _ rfl) ?_
    match i, hi with
    | 0, _ => show some (Value.float .f64 4613937818241073152) = some (.float .f64 (fN 3).b); rw [bits3]
    | 1, _ => show some (Value.float .f64 4607182418800017408) = some (.float .f64 (fN 1).b); rw [bits1]
    | 2, _ => show some (Value.float .f64 4611686018427387904) = some (.float .f64 (fN 2).b); rw [bits2]
  have ht := Targeted_few w.heap.size 3 3 8 sv _ hf (by simp) (by omega) (by omega) (by omega) 4576918229304087675
  have hb : FX ((8 : Nat) : Int) = 4602678819172646912 := by decide +kernel
  rw [hb] at ht
  have Ht := Lib.hid (ht.mono (R' := fun r w' => r = .returned (.tuple #[.float .f64 4611686018427387904, .int .i64 3]) ∧ RowKit.Below w.heap.size w w') fun r w' ⟨⟨ys, h1, h2, h3⟩, h4⟩ => by
    rw [sane_sorted ys h1 h2] at h3
    exact ⟨h3, ((RowKit.Below.refl _ w).alloc (Nat.le_refl _) _).trans (h4.mono (by simp))⟩)
  clear ht hf hb
  go_enter Try.func8, Try.ntmps8
  go_wp2_with (go_at_call 9; refine Ht.out.mono ?_; rintro r w1 ⟨rfl, hb1⟩; have HB := Lib.hid hb1; clear hb1)
  go_ret
  exact ⟨rfl, HB.out⟩

theorem ltF_le {x y : FNN} (h : ltF x y = false) : y.b ≤ x.b := by
  unfold ltF at h; have := of_decide_eq_false h; omega
theorem ahead_at (w : World) (n b : Nat) : (Sort.ahead w n).heap[b]? = w.heap[b]? := rfl
/-- slices.Sort OF FLOATS: in order, a permutation. -/
theorem sortF_calls (V cap : Nat) (ds : List FNN) (w : World) (hf : ∀ i, i < ds.length → w.cell? ⟨V, i, none⟩ = some (.float .f64 ds[i]!.b) ∧ w.frozen? ⟨V, i, none⟩ = false) (hV : V < w.heap.size) (base : Nat) (hb : base ≤ V) (hsz : ds.length < 4611686018427387904) :
    Calls Try.prog 52 #[.slice (some ⟨V, 0, none⟩) ds.length cap] w fun e w' => e = .returned (.tuple #[]) ∧
      ∃ es : List FNN, es.Perm ds ∧ (es.map (·.b)).Pairwise (· ≤ ·) ∧ FloatsAt w' V ds.length (fun i => es[i]!) ∧ RowKit.Below base w w' := by
  have hH : Holds encF w V 0 ds.toArray := fun j hj => by
    have hj' : j < ds.length := by simpa using hj
    have := hf j hj'
    rw [Nat.zero_add]
    refine ⟨this.1.trans ?_, this.2⟩
    simp [encF]
  have h := pdq_sorts ltF ltF_SWO ds.toArray 0 ds.toArray.size (bitsLen ds.toArray.size) true true (Nat.zero_le _) (Nat.le_refl _) (Or.inl rfl)
  have h' := Sort_flt pdqWalkFlt V 0 cap ds.toArray w hH hV (by simpa using hsz)
  have hs : (Sort.sort ltF ds.toArray).size = ds.length := by show (pdq _ _ _ _ _ _ _).size = _; rw [h.1.1]; simp
  refine (by simpa using h' : Calls _ _ #[.slice (some ⟨V, 0, none⟩) ds.length cap] w _).mono ?_
  rintro e w' ⟨rfl, n, os, rfl⟩
  refine ⟨rfl, (Sort.sort ltF ds.toArray).toList, ?_, ?_, ?_, ?_⟩
  · have := h.1.2.2
    rw [Array.extract_eq_self_of_le (by rw [h.1.1]; exact Nat.le_refl _), Array.extract_eq_self_of_le (Nat.le_refl _)] at this
    exact this
  · rw [List.pairwise_map, List.pairwise_iff_getElem]
    intro i j hi hj hij
    have hi' : i < (Sort.sort ltF ds.toArray).size := by simpa using hi
    have hj' : j < (Sort.sort ltF ds.toArray).size := by simpa using hj
    have := h.2 i j (Nat.zero_le _) hij (by simp; omega)
    have e1 : ltF (Sort.sort ltF ds.toArray)[j]! (Sort.sort ltF ds.toArray)[i]! = false := this
    rw [getElem!_pos _ i hi', getElem!_pos _ j hj'] at e1
    simpa using ltF_le e1
  · intro i hi
    have hb' : V < (Sort.ahead w n).heap.size := hV
    have hh := (holds_grow encF (putRow encF (Sort.ahead w n) V 0 (Sort.sort ltF ds.toArray)) os V 0 _ (by simp [putRow, mapBlock]; exact hV) (holds_putRow encF (Sort.ahead w n) V 0 ds.toArray (Sort.sort ltF ds.toArray) hH (by rw [hs]; simp))) i (by rw [hs]; exact hi)
    rw [Nat.zero_add] at hh
    refine hh.1.trans ?_
    have : i < (Sort.sort ltF ds.toArray).size := by rw [hs]; exact hi
    simp [encF, this]
  · refine below_grow ?_ (by simp [putRow, mapBlock]; show base ≤ w.heap.size; omega) os
    refine ⟨rfl, rfl, rfl, ?_, fun k hk => ?_⟩
    · simp [putRow, mapBlock]
    · simp only [putRow, mapBlock, Array.getElem?_modify]; rw [if_neg (by omega)]; rfl

set_option maxRecDepth 100000 in
/-- spec.Sorted. -/
theorem sorted_calls (V cap N : Nat) (val : Nat → FNN) (w : World) (hf : FloatsAt w V N val) (_hV : V < w.heap.size) (hpos : 1 ≤ N) (hN : N ≤ 100000) :
    Calls Try.prog 29 #[.slice (some ⟨V, 0, none⟩) N cap] w fun e w' => ∃ (V' cap' : Nat) (es : List FNN), e = .returned (.slice (some ⟨V', 0, none⟩) N cap') ∧
      es.Perm ((List.range N).map val) ∧ (es.map (·.b)).Pairwise (· ≤ ·) ∧ FloatsAt w' V' N (fun i => es[i]!) ∧ w.heap.size ≤ V' ∧ V' < w'.heap.size ∧ RowKit.Below w.heap.size w w' := by
  obtain ⟨i0, hi, hz0, hz1, hz2⟩ := info_parts info_f64
  have hcl := AnyE.slices_Clone Try.laysSlE041_f51 i0 (.float .f64 0) 1 8 hi hz0 hz1 hz2 rfl (by decide) (fun w => by kernel_rfl) V 0 N cap ((List.range N).map fun i => .float .f64 (val i).b) w (by simp) (by unfold maxLen; omega) (by omega)
    (fun j u hu => by
      have hj : j < N := by
        rcases Nat.lt_or_ge j N with h | h
        · exact h
        · rw [List.getElem?_eq_none (by simpa using h)] at hu; cases hu
      simp [hj] at hu
      subst hu
      rw [Nat.zero_add]; exact hf j hj)
    (fun u hu => by simp at hu; obtain ⟨i, _, rfl⟩ := hu; rfl)
  have hcl' : Calls Try.prog 51 #[.slice (some ⟨V, 0, none⟩) N cap] w fun e w' => ∃ V' cap', e = .returned (.slice (some ⟨V', 0, none⟩) N cap') ∧ Hid (w.heap.size ≤ V' ∧ V' < w'.heap.size ∧ FloatsAt w' V' N val ∧ (∀ i, w'.frozen? ⟨V', i, none⟩ = false) ∧ RowKit.Below w.heap.size w w') :=
    hcl.mono fun e w' ⟨v', h1, h2, h3, h4⟩ => by
      rcases floats_of_own h2 with ⟨h5, _⟩ | ⟨V', cap', rfl, h6, h7, h8, h9, h10, h11⟩
      · exact absurd h5 h3
      · exact ⟨V', cap', h1, ⟨h8, h9, h10, h11, h4⟩⟩
  have Hcl := Lib.hid hcl'
  have hso : ∀ V' cap' w1, (w.heap.size ≤ V' ∧ V' < w1.heap.size ∧ FloatsAt w1 V' N val ∧ (∀ i, w1.frozen? ⟨V', i, none⟩ = false) ∧ RowKit.Below w.heap.size w w1) →
      Calls Try.prog 52 #[.slice (some ⟨V', 0, none⟩) N cap'] w1 fun e w' => e = .returned (.tuple #[]) ∧ Hid (∃ es : List FNN, es.Perm ((List.range N).map val) ∧ (es.map (·.b)).Pairwise (· ≤ ·) ∧ FloatsAt w' V' N (fun i => es[i]!) ∧ RowKit.Below w.heap.size w1 w') := fun V' cap' w1 ⟨h1, h2, h3, h4, h5⟩ => by
    have := sortF_calls V' cap' ((List.range N).map val) w1 (fun i hi => by
      have hi' : i < N := by simpa using hi
      refine ⟨(h3 i hi').trans ?_, h4 i⟩
      rw [getElem!_pos _ i hi]; simp) h2 w.heap.size h1 (by simp; omega)
    rw [List.length_map, List.length_range] at this
    exact this.mono fun e w' ⟨a, es, b, c, d, f⟩ => ⟨a, es, b, c, d, f⟩
  have Hso := Lib.hid hso
  clear hcl hcl' hso hi hz0 hz1 hz2
  have Hf := Lib.hid hf
  clear hf
  go_enter Try.func29, Try.ntmps29
  go_wp2_with (first
    | (go_at_call 51; refine Hcl.out.mono ?_; rintro e w1 ⟨V', cap', rfl, hown⟩)
    | (go_at_call 52; refine (Hso.out V' cap' w1 hown.out).mono ?_; rintro e w2 ⟨rfl, hE⟩))
  go_ret
  obtain ⟨es, h1, h2, h3, h4⟩ := hE.out
  obtain ⟨h5, h6, _, _, h7⟩ := hown.out
  exact ⟨V', cap', es, rfl, h1, h2, h3, h5, by have := h4.size; omega, h7.trans h4⟩
end Go.Proofs.Ythcgojhfbcgaiaa
