/- laws.sane, spec.Sorted. The stream's summary in memory; copy within a row of several-cell elements. -/
import Derived.Test.YthcgojhfbcgaiaaGreatDoorMBK
import Derived.Test.YthcgojhfbcgaiaaGreatDoorMBO
import Derived.Test.YthcgojhfbcgaiaaGreatDoorShelf
import Derived.Laws.IdiomCopy
import Derived.Deep.RegionLaw
import Derived.Test.YthcgojhfbcgaiaaGreatDoorMBJ

namespace Go.Proofs.YthcgojhfbcgaiaaGreatDoor
open Go.RowKit Go.Sort Go.Proofs

theorem bits1 : (fN 1).b = 4607182418800017408 := by rw [fN_b 1 (by omega)]; decide +kernel
theorem bits2 : (fN 2).b = 4611686018427387904 := by rw [fN_b 2 (by omega)]; decide +kernel
theorem bits3 : (fN 3).b = 4613937818241073152 := by rw [fN_b 3 (by omega)]; decide +kernel

/-- Two rows of numbers in order, the one the other's permutation, are one. -/
theorem keys_one : ∀ {l m : List Nat}, l.Perm m → l.Pairwise (· ≤ ·) → m.Pairwise (· ≤ ·) → l = m
  | [], m, h, _, _ => (List.perm_nil.1 h.symm).symm
  | a :: l, [], h, _, _ => absurd (List.perm_nil.1 h) (by simp)
  | a :: l, b :: m, h, hl, hm => by
    have ha : a ∈ b :: m := h.subset (by simp)
    have hb : b ∈ a :: l := h.symm.subset (by simp)
    have e : a = b := by
      rcases List.mem_cons.1 ha with h1 | h1
      · exact h1
      · rcases List.mem_cons.1 hb with h2 | h2
        · exact h2.symm
        · have := (List.pairwise_cons.1 hl).1 b h2
          have := (List.pairwise_cons.1 hm).1 a h1
          omega
    subst e
    rw [keys_one ((List.perm_cons a).1 h) (List.pairwise_cons.1 hl).2 (List.pairwise_cons.1 hm).2]
theorem keys_of_smp {ys : List SmpF} (hs : ys.Pairwise (fun a b => ltSmp b a = false)) : (ys.map (·.v.b)).Pairwise (· ≤ ·) := by
  rw [List.pairwise_map]
  refine hs.imp fun {a b} h => ?_
  unfold ltSmp ltF at h
  have := of_decide_eq_false h
  omega
theorem get_keys (ys : List SmpF) (i : Nat) (h : i < ys.length) : ys[i]!.v.b = (ys.map (·.v.b))[i]! := by
  rw [getElem!_pos ys i h, getElem!_pos (ys.map (·.v.b)) i (by simpa using h)]; simp

/-- THE SANE STREAM's VALUES: three, one, two. -/
def sv (i : Nat) : FNN := fN (if i = 0 then 3 else if i = 1 then 1 else 2)

theorem sane_sorted (ys : List SmpF) (hp : ys.Perm (onesOf sv 3)) (hs : ys.Pairwise (fun a b => ltSmp b a = false)) : ys[placeOf 3 8]!.v.b = 4611686018427387904 := by
  have hk := hp.map (·.v.b)
  have e : (onesOf sv 3).map (·.v.b) = [4613937818241073152, 4607182418800017408, 4611686018427387904] := by
    show [(fN 3).b, (fN 1).b, (fN 2).b] = _
    rw [bits1, bits2, bits3]
  rw [e] at hk
  have h2 := keys_one (hk.trans (l₃ := [4607182418800017408, 4611686018427387904, 4613937818241073152]) (by decide)) (keys_of_smp hs) (by decide)
  have hl : ys.length = 3 := by rw [hp.length_eq, onesOf_len]
  rw [get_keys _ _ (by rw [hl]; decide), h2]
  decide

set_option maxRecDepth 100000 in
theorem sane_calls (w : World) : Calls Tryz.prog 12 #[] w fun e w' => e = .returned (.bool true) ∧ RowKit.Below w.heap.size w w' := by
  have hf : FloatsAt (w.alloc (.cells #[.float .f64 4613937818241073152, .float .f64 4607182418800017408, .float .f64 4611686018427387904] 29)) w.heap.size 3 sv := by
    intro i hi
    refine cell_of (hp_at w _ _ rfl) ?_
    match i, hi with
    | 0, _ => show some (Value.float .f64 4613937818241073152) = some (.float .f64 (fN 3).b); rw [bits3]
    | 1, _ => show some (Value.float .f64 4607182418800017408) = some (.float .f64 (fN 1).b); rw [bits1]
    | 2, _ => show some (Value.float .f64 4611686018427387904) = some (.float .f64 (fN 2).b); rw [bits2]
  have ht := Targeted_few w.heap.size 3 3 8 sv _ hf (by simp) (by omega) (by omega) (by omega) 4576918229304087675
  have hb : FX ((8 : Nat) : Int) = 4602678819172646912 := by decide +kernel
  rw [hb] at ht
  have Ht := Lib.hid (ht.mono (R' := fun r w' => r = .returned (.tuple #[.float .f64 4611686018427387904, .int .i64 3]) ∧ RowKit.Below w.heap.size w w') fun r w' ⟨⟨ys, h1, h2, h3⟩, h4⟩ => by
    rw [sane_sorted ys h1 h2] at h3
    exact ⟨h3, ((RowKit.Below.refl _ w).alloc (Nat.le_refl _) _).trans (h4.mono (by simp))⟩)
  clear ht hf hb
  go_enter Tryz.func12, Tryz.ntmps12
  go_wp2_with (go_at_call 23; refine Ht.out.mono ?_; rintro r w1 ⟨rfl, hb1⟩; have HB := Lib.hid hb1; clear hb1)
  go_ret
  exact ⟨rfl, HB.out⟩

theorem ltF_le {x y : FNN} (h : ltF x y = false) : y.b ≤ x.b := by
  unfold ltF at h; have := of_decide_eq_false h; omega
theorem ahead_at (w : World) (n b : Nat) : (Sort.ahead w n).heap[b]? = w.heap[b]? := rfl
/-- slices.Sort OF FLOATS: in order, a permutation. -/
theorem sortF_calls (V cap : Nat) (ds : List FNN) (w : World) (hf : ∀ i, i < ds.length → w.cell? ⟨V, i, none⟩ = some (.float .f64 ds[i]!.b) ∧ w.frozen? ⟨V, i, none⟩ = false) (hV : V < w.heap.size) (base : Nat) (hb : base ≤ V) (hsz : ds.length < 4611686018427387904) :
    Calls Tryz.prog 28 #[.slice (some ⟨V, 0, none⟩) ds.length cap] w fun e w' => e = .returned (.tuple #[]) ∧
      ∃ es : List FNN, es.Perm ds ∧ (es.map (·.b)).Pairwise (· ≤ ·) ∧ FloatsAt w' V ds.length (fun i => es[i]!) ∧ RowKit.Below base w w' := by
  have hH : Holds encF w V 0 ds.toArray := fun j hj => by
    have hj' : j < ds.length := by simpa using hj
    have := hf j hj'
    rw [Nat.zero_add]
    refine ⟨this.1.trans ?_, this.2⟩
    simp [encF]
  have h := pdq_sorts ltF ltF_SWO ds.toArray 0 ds.toArray.size (bitsLen ds.toArray.size) true true (Nat.zero_le _) (Nat.le_refl _) (Or.inl rfl)
  have h' := Sort_flt pdqWalkFlt V 0 cap ds.toArray w hH hV (by simpa using hsz)
  have hs : (Sort.sort ltF ds.toArray).size = ds.length := by show (pdq _ _ _ _ _ _ _).size = _; rw [h.1.1]; simp
  refine (by simpa using h' : Calls _ _ #[.slice (some ⟨V, 0, none⟩) ds.length cap] w _).mono ?_
  rintro e w' ⟨rfl, n, os, rfl⟩
  refine ⟨rfl, (Sort.sort ltF ds.toArray).toList, ?_, ?_, ?_, ?_⟩
  · have := h.1.2.2
    rw [Array.extract_eq_self_of_le (by rw [h.1.1]; exact Nat.le_refl _), Array.extract_eq_self_of_le (Nat.le_refl _)] at this
    exact this
  · rw [List.pairwise_map, List.pairwise_iff_getElem]
    intro i j hi hj hij
    have hi' : i < (Sort.sort ltF ds.toArray).size := by simpa using hi
    have hj' : j < (Sort.sort ltF ds.toArray).size := by simpa using hj
    have := h.2 i j (Nat.zero_le _) hij (by simp; omega)
    have e1 : ltF (Sort.sort ltF ds.toArray)[j]! (Sort.sort ltF ds.toArray)[i]! = false := this
    rw [getElem!_pos _ i hi', getElem!_pos _ j hj'] at e1
    simpa using ltF_le e1
  · intro i hi
    have hb' : V < (Sort.ahead w n).heap.size := hV
    have hh := (holds_grow encF (putRow encF (Sort.ahead w n) V 0 (Sort.sort ltF ds.toArray)) os V 0 _ (by simp [putRow, mapBlock]; exact hV) (holds_putRow encF (Sort.ahead w n) V 0 ds.toArray (Sort.sort ltF ds.toArray) hH (by rw [hs]; simp))) i (by rw [hs]; exact hi)
    rw [Nat.zero_add] at hh
    refine hh.1.trans ?_
    have : i < (Sort.sort ltF ds.toArray).size := by rw [hs]; exact hi
    simp [encF, this]
  · refine below_grow ?_ (by simp [putRow, mapBlock]; show base ≤ w.heap.size; omega) os
    refine ⟨rfl, rfl, rfl, ?_, fun k hk => ?_⟩
    · simp [putRow, mapBlock]
    · simp only [putRow, mapBlock, Array.getElem?_modify]; rw [if_neg (by omega)]; rfl

set_option maxRecDepth 100000 in
/-- spec.Sorted. -/
theorem sorted_calls (V cap N : Nat) (val : Nat → FNN) (w : World) (hf : FloatsAt w V N val) (_hV : V < w.heap.size) (hpos : 1 ≤ N) (hN : N ≤ 100000) :
    Calls Tryz.prog 16 #[.slice (some ⟨V, 0, none⟩) N cap] w fun e w' => ∃ (V' cap' : Nat) (es : List FNN), e = .returned (.slice (some ⟨V', 0, none⟩) N cap') ∧
      es.Perm ((List.range N).map val) ∧ (es.map (·.b)).Pairwise (· ≤ ·) ∧ FloatsAt w' V' N (fun i => es[i]!) ∧ w.heap.size ≤ V' ∧ V' < w'.heap.size ∧ RowKit.Below w.heap.size w w' := by
  obtain ⟨i0, hi, hz0, hz1, hz2⟩ := info_parts info_f64
  have hcl := AnyE.slices_Clone Tryz.laysSlE041_f27 i0 (.float .f64 0) 1 8 hi hz0 hz1 hz2 rfl (by decide) (fun w => by kernel_rfl) V 0 N cap ((List.range N).map fun i => .float .f64 (val i).b) w (by simp) (by unfold maxLen; omega) (by omega)
    (fun j u hu => by
      have hj : j < N := by
        rcases Nat.lt_or_ge j N with h | h
        · exact h
        · rw [List.getElem?_eq_none (by simpa using h)] at hu; cases hu
      simp [hj] at hu
      subst hu
      rw [Nat.zero_add]; exact hf j hj)
    (fun u hu => by simp at hu; obtain ⟨i, _, rfl⟩ := hu; rfl)
  have hcl' : Calls Tryz.prog 27 #[.slice (some ⟨V, 0, none⟩) N cap] w fun e w' => ∃ V' cap', e = .returned (.slice (some ⟨V', 0, none⟩) N cap') ∧ Hid (w.heap.size ≤ V' ∧ V' < w'.heap.size ∧ FloatsAt w' V' N val ∧ (∀ i, w'.frozen? ⟨V', i, none⟩ = false) ∧ RowKit.Below w.heap.size w w') :=
    hcl.mono fun e w' ⟨v', h1, h2, h3, h4⟩ => by
      rcases floats_of_own h2 with ⟨h5, _⟩ | ⟨V', cap', rfl, h6, h7, h8, h9, h10, h11⟩
      · exact absurd h5 h3
      · exact ⟨V', cap', h1, ⟨h8, h9, h10, h11, h4⟩⟩
  have Hcl := Lib.hid hcl'
  have hso : ∀ V' cap' w1, (w.heap.size ≤ V' ∧ V' < w1.heap.size ∧ FloatsAt w1 V' N val ∧ (∀ i, w1.frozen? ⟨V', i, none⟩ = false) ∧ RowKit.Below w.heap.size w w1) →
      Calls Tryz.prog 28 #[.slice (some ⟨V', 0, none⟩) N cap'] w1 fun e w' => e = .returned (.tuple #[]) ∧ Hid (∃ es : List FNN, es.Perm ((List.range N).map val) ∧ (es.map (·.b)).Pairwise (· ≤ ·) ∧ FloatsAt w' V' N (fun i => es[i]!) ∧ RowKit.Below w.heap.size w1 w') := fun V' cap' w1 ⟨h1, h2, h3, h4, h5⟩ => by
    have := sortF_calls V' cap' ((List.range N).map val) w1 (fun i hi => by
      have hi' : i < N := by simpa using hi
      refine ⟨(h3 i hi').trans ?_, h4 i⟩
      rw [getElem!_pos _ i hi]; simp) h2 w.heap.size h1 (by simp; omega)
    rw [List.length_map, List.length_range] at this
    exact this.mono fun e w' ⟨a, es, b, c, d, f⟩ => ⟨a, es, b, c, d, f⟩
  have Hso := Lib.hid hso
  clear hcl hcl' hso hi hz0 hz1 hz2
  have Hf := Lib.hid hf
  clear hf
  go_enter Tryz.func16, Tryz.ntmps16
  go_wp2_with (first
    | (go_at_call 27; refine Hcl.out.mono ?_; rintro e w1 ⟨V', cap', rfl, hown⟩)
    | (go_at_call 28; refine (Hso.out V' cap' w1 hown.out).mono ?_; rintro e w2 ⟨rfl, hE⟩))
  go_ret
  obtain ⟨es, h1, h2, h3, h4⟩ := hE.out
  obtain ⟨h5, h6, _, _, h7⟩ := hown.out
  exact ⟨V', cap', es, rfl, h1, h2, h3, h5, by have := h4.size; omega, h7.trans h4⟩
end Go.Proofs.YthcgojhfbcgaiaaGreatDoor

namespace Go.Proofs.YthcgojhfbcgaiaaGreatDoor
open Go.RowKit Go.Sort Go.Proofs

/-- copy OVER ELEMENTS OF k CELLS: all is read before anything is written. -/
theorem run_copy_k {P : Program} (w : World) (dT sT ty elem : TypeId) (k b o dLen dCap : Nat) (a : Addr) (sLen sCap : Nat) (cs : List Value)
    (hu : P.underlying dT = some (.slice elem)) (hs : (P.info? elem).map (·.size) = some k) (hn : cs.length = Nat.min sLen dLen * k)
    (hsrc : ∀ j v, cs[j]? = some v → w.cell? (a.add j) = some v) (hc : ∀ j, j < cs.length → (w.cell? ⟨b, o + j, none⟩).isSome = true) (hf : ∀ j, j < cs.length → w.frozen? ⟨b, o + j, none⟩ = false) (h1 : ∀ v ∈ cs, v.oneCell' = true) :
    (Builtin.copy_ #[dT, sT] ty #[.slice (some ⟨b, o, none⟩) dLen dCap, .slice (some a) sLen sCap]).run P w = .ok (goInt (Nat.min sLen dLen)) (w.setCells b o cs) := by
  have hl := run_loadCells_list (P := P) w a cs hsrc
  have hst := run_storeCells_cells (P := P) b o cs 0 w (by simpa using hc) (by simpa using hf) h1
  cases hq : P.info? elem with
  | none => simp [hq] at hs
  | some i =>
    have hi : i.size = k := by simpa [hq] using hs
    simp [Builtin.copy_, run_underlying hu, Builtin.lenOf, Builtin.firstCells, sizeOf, typeInfo, hq, hi, ← hn, hl, hst]

theorem step_copy_k {P : Program} {ops : Array Oper} {o : Oper} {a : Act} {w : World} {K : Act → World → Prop} {Q : Exit → Act → World → Prop} {E : Prop} (hgd : o.guard = none) (d s : Operand) (dT sT : TypeId)
    (ho : o.op = .call { callee := .builtin .copy, args := #[d, s], argTypes := #[dT, sT] }) (elem : TypeId) (k : Nat) (hu : P.underlying dT = some (.slice elem)) (hsz : (P.info? elem).map (·.size) = some k)
    (b off dLen dCap : Nat) (ad : Addr) (sLen sCap : Nat) (hd : a.eval d = .slice (some ⟨b, off, none⟩) dLen dCap) (hs : a.eval s = .slice (some ad) sLen sCap)
    (cs : List Value) (hn : cs.length = Nat.min sLen dLen * k) (hsrc : ∀ j v, cs[j]? = some v → w.cell? (ad.add j) = some v)
    (hc : ∀ j, j < cs.length → (w.cell? ⟨b, off + j, none⟩).isSome = true) (hf : ∀ j, j < cs.length → w.frozen? ⟨b, off + j, none⟩ = false) (h1 : ∀ v ∈ cs, v.oneCell' = true)
    (h : K (a.put o.dst (goInt (Nat.min sLen dLen))) (w.setCells b off cs)) :
    if Region.wanted o (yielded ops a.tmps) = true then Oper.wp P o a w K Q else E := by
  have hw : Region.wanted o (yielded ops a.tmps) = true := by simp [Region.wanted, hgd]
  rw [if_pos hw]
  have hrun := run_copy_k (P := P) w dT sT o.type elem k b off dLen dCap ad sLen sCap cs hu hsz hn hsrc hc hf h1
  unfold Oper.wp
  simp [execOp, ho, resolve, invoke, builtin, hd, hs, hrun, Result.andThen]
  exact h

theorem wpList_copy_k {P : Program} {ops : Array Oper} {rest : List Oper} {o : Oper} {a : Act} {w : World} {Q : Exit → Act → World → Prop} (hgd : o.guard = none) (d s : Operand) (dT sT : TypeId)
    (ho : o.op = .call { callee := .builtin .copy, args := #[d, s], argTypes := #[dT, sT] }) (elem : TypeId) (k : Nat) (hu : P.underlying dT = some (.slice elem)) (hsz : (P.info? elem).map (·.size) = some k)
    (b off dLen dCap : Nat) (ad : Addr) (sLen sCap : Nat) (hd : a.eval d = .slice (some ⟨b, off, none⟩) dLen dCap) (hs : a.eval s = .slice (some ad) sLen sCap)
    (cs : List Value) (hn : cs.length = Nat.min sLen dLen * k) (hsrc : ∀ j v, cs[j]? = some v → w.cell? (ad.add j) = some v)
    (hc : ∀ j, j < cs.length → (w.cell? ⟨b, off + j, none⟩).isSome = true) (hf : ∀ j, j < cs.length → w.frozen? ⟨b, off + j, none⟩ = false) (h1 : ∀ v ∈ cs, v.oneCell' = true)
    (h : wpList P ops Q rest (a.put o.dst (goInt (Nat.min sLen dLen))) (w.setCells b off cs)) :
    wpList P ops Q (o :: rest) a w := by
  refine wpList_plain hgd fun K hK => ?_
  have hrun := run_copy_k (P := P) w dT sT o.type elem k b off dLen dCap ad sLen sCap cs hu hsz hn hsrc hc hf h1
  unfold Oper.wp
  simp [execOp, ho, resolve, invoke, builtin, hd, hs, hrun, Result.andThen]
  exact hK _ _ h

/-- The cells of a summary. -/
def flatS (L : List SmpF) : List Value := L.flatMap encSmp
theorem flatS_len (L : List SmpF) : (flatS L).length = L.length * 3 := by
  induction L with
  | nil => rfl
  | cons x L ih => simp only [flatS, List.flatMap_cons, List.length_append, List.length_cons] at *; rw [ih, encSmp_len]; omega
theorem flatS_append (L M : List SmpF) : flatS (L ++ M) = flatS L ++ flatS M := by simp [flatS]
theorem flatS_one (x : SmpF) : flatS [x] = encSmp x := by simp [flatS]
theorem flatS_get (L : List SmpF) : ∀ i, i < L.length → ∀ c, c < 3 → (flatS L)[i * 3 + c]? = some (encSmp L[i]!)[c]! := by
  induction L with
  | nil => intro i hi; simp at hi
  | cons x L ih =>
    intro i hi c hc
    have hx : (encSmp x).length = 3 := rfl
    match i with
    | 0 =>
      show (encSmp x ++ flatS L)[0 * 3 + c]? = _
      rw [List.getElem?_append_left (by omega), Nat.zero_mul, Nat.zero_add]
      match c, hc with
      | 0, _ => rfl
      | 1, _ => rfl
      | 2, _ => rfl
    | i + 1 =>
      show (encSmp x ++ flatS L)[(i + 1) * 3 + c]? = _
      rw [List.getElem?_append_right (by omega), hx, show (i + 1) * 3 + c - 3 = i * 3 + c by omega, ih i (by simpa using hi) c hc]
      simp

/-- A ROW OF SAMPLES THAT THE STREAM OWNS, opened. -/
theorem own_open {w : World} {top : Nat} {v : Value} {L : List SmpF} (h : w.ownsRow top 93 3 v L.length (flatS L)) :
    (v = .slice none 0 0 ∧ L = []) ∨ ∃ g cap cur, v = .slice (some ⟨g, 0, none⟩) L.length cap ∧ top ≤ g ∧ w.heap[g]? = some (.cells cur 93) ∧ L.length ≤ cap ∧ cap ≤ maxLen ∧ cur.size = cap * 3 ∧ BufIs cur L := by
  rcases h.2 with ⟨h1, h2⟩ | ⟨g, cap, cur, h1, h2, h3, h4, h5, h6, h7⟩
  · exact .inl ⟨h1, List.eq_nil_of_length_eq_zero h2⟩
  · refine .inr ⟨g, cap, cur, h1, h2, h3, h4, h5, h6, ⟨by omega, fun i hi c hc => ?_⟩⟩
    have e := flatS_get L i hi c hc
    rw [← h7, List.getElem?_take_of_lt (by omega)] at e
    simp at e
    rw [Array.getElem!_eq_getD, Array.getD_eq_getD_getElem?, e]; simp
theorem own_shut {w : World} {top g cap : Nat} {cur : Array Value} {L : List SmpF} (h2 : top ≤ g) (h3 : w.heap[g]? = some (.cells cur 93)) (h4 : L.length ≤ cap) (h5 : cap ≤ maxLen) (h6 : cur.size = cap * 3) (h7 : BufIs cur L) :
    w.ownsRow top 93 3 (.slice (some ⟨g, 0, none⟩) L.length cap) L.length (flatS L) := by
  refine ⟨flatS_len L, .inr ⟨g, cap, cur, rfl, h2, h3, h4, h5, h6, ?_⟩⟩
  apply List.ext_getElem?
  intro t
  rcases Nat.lt_or_ge t (L.length * 3) with ht | ht
  · have := flatS_get L (t / 3) (by omega) (t % 3) (by omega)
    rw [show t / 3 * 3 + t % 3 = t by omega] at this
    rw [this, List.getElem?_take_of_lt ht, ← h7.2 (t / 3) (by omega) (t % 3) (by omega), show t / 3 * 3 + t % 3 = t by omega]
    simp
    exact some_of_get! (by omega)
  · rw [List.getElem?_eq_none (by simp; omega), List.getElem?_eq_none (by rw [flatS_len]; exact ht)]

theorem BufIs.part {cur : Array Value} {A M Z : List SmpF} (h : BufIs cur (A ++ M ++ Z)) : ∀ t v, (flatS M)[t]? = some v → cur[A.length * 3 + t]? = some v := fun t v hv => by
  have ht : t < M.length * 3 := by
    rcases Nat.lt_or_ge t (flatS M).length with h | h
    · rwa [flatS_len] at h
    · rw [List.getElem?_eq_none h] at hv; cases hv
  have e := flatS_get M (t / 3) (by omega) (t % 3) (by omega)
  rw [show t / 3 * 3 + t % 3 = t by omega, hv] at e
  have hl := h.1
  simp at hl
  have h2 := h.2 (A.length + t / 3) (by simp; omega) (t % 3) (by omega)
  rw [show (A.length + t / 3) * 3 + t % 3 = A.length * 3 + t by omega] at h2
  rw [some_of_get! (by omega), h2, Option.some.inj e]
  congr 3
  rw [getElem!_pos (A ++ M ++ Z) _ (by simp; omega), getElem!_pos M (t / 3) (by omega), List.getElem_append_left (by simp; omega), List.getElem_append_right (by omega)]
  simp
theorem flatS_one_cell (M : List SmpF) : ∀ v ∈ flatS M, v.oneCell' = true := fun v hv => by
  simp only [flatS, List.mem_flatMap] at hv
  obtain ⟨x, _, hx⟩ := hv
  simp [encSmp] at hx
  rcases hx with rfl | rfl | rfl <;> rfl

/-- One sample put in at place i, over copy and store. -/
theorem BufIs.inserted {cur : Array Value} {L : List SmpF} {z : SmpF} (h : BufIs cur (L ++ [z])) (i : Nat) (hi : i ≤ L.length) (x : SmpF) :
    BufIs (setMany (setMany cur ((i + 1) * 3) (flatS (L.drop i))) (i * 3) (encSmp x)) (L.take i ++ x :: L.drop i) := by
  have hs := h.1
  simp at hs
  have hl : (flatS (L.drop i)).length = (L.length - i) * 3 := by rw [flatS_len]; simp
  refine ⟨by simp [size_setMany]; omega, fun j hj c hc => ?_⟩
  simp at hj
  rw [get_setMany _ _ _ _ (by rw [size_setMany]; omega), get_setMany _ _ _ _ (by omega), hl, encSmp_len]
  rcases Nat.lt_trichotomy j i with h1 | h1 | h1
  · rw [if_neg (by omega), if_neg (by omega), h.2 j (by simp; omega) c hc]
    congr 2
    rw [getElem!_pos (L ++ [z]) j (by simp; omega), getElem!_pos _ j (by simp; omega), List.getElem_append_left (by omega), List.getElem_append_left (by simp; omega)]
    simp
  · subst h1
    rw [if_pos (by omega), show j * 3 + c - j * 3 = c by omega]
    congr 2
    rw [getElem!_pos _ j (by simp; omega), List.getElem_append_right (by simp; omega)]
    simp [Nat.min_eq_left hi]
  · rw [if_neg (by omega), if_pos (by omega)]
    obtain ⟨q, rfl⟩ : ∃ q, j = i + 1 + q := ⟨j - (i + 1), by omega⟩
    have hq : q < (L.drop i).length := by simp; omega
    have e := flatS_get (L.drop i) q hq c hc
    rw [show (i + 1 + q) * 3 + c - (i + 1) * 3 = q * 3 + c by omega]
    rw [List.getElem!_eq_getElem?_getD, e]
    simp only [Option.getD_some]
    congr 2
    rw [getElem!_pos _ q hq, getElem!_pos _ (i + 1 + q) (by simp; omega), List.getElem_append_right (by simp; omega)]
    simp only [List.length_take, Nat.min_eq_left hi, show i + 1 + q - i = q + 1 by omega, List.getElem_cons_succ]
end Go.Proofs.YthcgojhfbcgaiaaGreatDoor
