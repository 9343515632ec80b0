/- The stream's Insert, maybeSort, and Query before the first flush. -/
import Derived.Test.YthcgojhfbcgaiaaTgtOps
namespace Go.Proofs.Ythcgojhfbcgaiaa
open Go.RowKit Go.Sort Go.Proofs

section
variable {w : World} {base S T Q QA B q e m : Nat} {so : Bool} {n : Nat} {lv : Value} {bc : Array Value}

/-- A value that comes in: width one, delta nothing. -/
def oneSmp (v : FNN) : SmpF := ⟨v, FX 16, FX 0⟩
theorem one_bits : FX 16 = 4607182418800017408 := by decide +kernel
theorem zero_bits : FX 0 = 0 := by decide +kernel

set_option maxHeartbeats 400000 in
theorem Insert_any (v : FNN) (hm : m < 500) (Post : Ending → World → Prop) (h : Strm w base S T Q QA B q e m so n lv bc)
    (hno : Hid (m < 499 → ∀ Y, Strm Y base S T Q QA B q e (m + 1) false n lv (setMany bc (m * 3) (encSmp (oneSmp v))) → Below base w Y → KeptBut w Y S B → Post (.returned (.tuple #[])) Y))
    (hfl : Hid (m = 499 → ∀ Y, Strm Y base S T Q QA B q e 500 false n lv (setMany bc (m * 3) (encSmp (oneSmp v))) → Below base w Y → KeptBut w Y S B →
      Calls Try.prog 45 #[.pointer (some ⟨S, 0, none⟩)] Y fun r w' => r = .returned (.tuple #[]) ∧ Post r w')) :
    Calls Try.prog 22 #[.pointer (some ⟨S, 0, none⟩), .float .f64 v.b] w Post := by
  have hi := insert_any (oneSmp v) hm (fun r w' => r = .returned (.tuple #[]) ∧ Post r w') h (Lib.hid fun a b c d f => ⟨rfl, hno.out a b c d f⟩) (Lib.hid fun a b c d f => (hfl.out a b c d f).mono fun r w' ⟨h1, h2⟩ => ⟨h1, h1, h2⟩)
  have hi' : Calls Try.prog 41 #[.pointer (some ⟨S, 0, none⟩), .agg #[.float .f64 v.b, .float .f64 4607182418800017408, .float .f64 0]] w (fun r w' => r = .returned (.tuple #[]) ∧ Post r w') := by
    have := hi; unfold oneSmp at this; rw [one_bits, zero_bits] at this; exact this
  have Hi := Lib.hid hi'
  clear hi hi' hno hfl h
  go_enter Try.func22, Try.ntmps22
  go_wp2_with (go_at_call 41; refine Hi.out.mono ?_; rintro r w' ⟨rfl, hP⟩)
  go_end0
  exact hP

theorem Strm.setS2 (h : Strm w base S T Q QA B q e m so n lv bc) (b : Bool) : Strm (w.setCell ⟨S, 2, none⟩ (.bool b)) base S T Q QA B q e m b n lv bc := by
  obtain ⟨hne1, hne2, hne3, hne4, hne5, hne6, hne7, hne8, hne9, hne10⟩ := h.ne
  exact ⟨at_set h.hS 2 _, at_set_other _ hne1 h.hT, at_set_other _ hne2 h.hQ, at_set_other _ hne3 h.hQA, at_set_other _ hne4 h.hB, h.bsize, h.lt, h.ne⟩
theorem at_grow {b : Nat} {o : Obj} (os : Array Obj) (h : w.heap[b]? = some o) : (grow w os).heap[b]? = some o := by
  have := lt_of_at h
  show (w.heap ++ os)[b]? = _
  rw [Array.getElem?_append_left this]; exact h
theorem below_grow {base : Nat} {a : World} (h : RowKit.Below base a w) (hb : base ≤ w.heap.size) (os : Array Obj) : RowKit.Below base a (grow w os) := by
  refine ⟨h.os, h.tape, h.output, ?_, fun k hk => ?_⟩
  · have := h.size; show _ ≤ (w.heap ++ os).size; simp; omega
  · rw [← h.block k hk]; show (w.heap ++ os)[k]? = _; rw [Array.getElem?_append_left (by omega)]
theorem below_putRowK {base : Nat} {a : World} (hB : base ≤ B) (h : RowKit.Below base a w) (d : Array SmpF) : RowKit.Below base a (putRowK encSmp 3 w B 0 d) := by
  refine ⟨h.os, h.tape, h.output, ?_, fun k hk => ?_⟩
  · rw [size_putRowK]; exact h.size
  · rw [← h.block k hk]; simp only [putRowK, putRow, mapBlock, Array.getElem?_modify]; rw [if_neg (by omega)]

/-- The stream's own sort of its buffer. -/
theorem sortB_calls (xs : List SmpF) (hl : xs.length = m) (hm : m ≤ 500) (hb : BufIs bc xs) (h : Strm w base S T Q QA B q e m so n lv bc) :
    Calls Try.prog 54 #[.iface 89 (.slice (some ⟨B, 0, none⟩) m 500)] w fun r w' => r = .returned (.tuple #[]) ∧
      ∃ ys bc', ys.Perm xs ∧ ys.Pairwise (fun a b => ltSmp b a = false) ∧ BufIs bc' ys ∧ Strm w' base S T Q QA B q e m so n lv bc' ∧ RowKit.Below base w w' ∧ KeptBut w w' S B := by
  obtain ⟨hne1, hne2, hne3, hne4, hne5, hne6, hne7, hne8, hne9, hne10⟩ := h.ne
  rcases Nat.lt_or_ge m 2 with h1 | h2
  · refine (smp_Sort_tiny _ m 500 w (by omega)).mono ?_
    rintro r w' ⟨rfl, j, rfl⟩
    refine ⟨rfl, xs, bc, .refl _, ?_, hb, h.drewN j, below_drewN (RowKit.Below.refl _ _) j, KeptBut.refl _ _ _⟩
    match xs, hl with
    | [], _ => exact .nil
    | [a], _ => simp
    | a :: b :: r, hl => simp at hl; omega
  · refine (smp_Sort B 0 m 500 w xs.toArray (by simp [hl]) h2 (by omega) (hb.holds h.hB) (lt_of_at h.hB)).mono ?_
    rintro r w' ⟨rfl, d', k, os, hp, hsd, rfl⟩
    have hds : d'.size = xs.length := by rw [hp.1]; simp
    have hB' : (Sort.ahead w k).heap[B]? = _ := h.hB
    obtain ⟨bc', e1, e2, e3⟩ := at_putRowK d' hB' (by rw [hds, hl, h.bsize]; omega)
    refine ⟨rfl, d'.toList, bc', ?_, ?_, e3, ⟨at_grow _ (at_putRowK_other _ (by omega) h.hS), at_grow _ (at_putRowK_other _ (by omega) h.hT), at_grow _ (at_putRowK_other _ (by omega) h.hQ), at_grow _ (at_putRowK_other _ (by omega) h.hQA), at_grow _ e1, by rw [e2]; exact h.bsize, h.lt, h.ne⟩, ?_, ?_, fun b o _ hB ho => at_grow _ (at_putRowK_other _ (Ne.symm hB) ho)⟩
    · have := hp.2.2
      rw [Array.extract_eq_self_of_le (by omega), Array.extract_eq_self_of_le (by simp; omega)] at this
      simpa using this
    · rw [List.pairwise_iff_getElem]
      intro i j hi hj hij
      have := hsd i j (by omega) hij (by simp at hj; omega)
      simp at hi hj
      rw [getElem!_pos d' i hi, getElem!_pos d' j hj] at this
      simpa using this
    · exact below_grow (below_putRowK (w := Sort.ahead w k) (a := w) h.lt.2.2.2.2 ⟨rfl, rfl, rfl, Nat.le_refl _, fun _ _ => rfl⟩ _) (by simp only [putRowK, putRow, mapBlock, Array.size_modify]; exact h.below) _
    · show w.heap.size ≤ ((putRowK encSmp 3 (Sort.ahead w k) B 0 d').heap ++ os).size
      rw [Array.size_append]
      have : (putRowK encSmp 3 (Sort.ahead w k) B 0 d').heap.size = w.heap.size := by simp only [putRowK, putRow, mapBlock, Array.size_modify]; rfl
      omega

set_option maxHeartbeats 400000 in
/-- maybeSort: the buffer's samples in order. -/
theorem maybeSort_calls (xs : List SmpF) (hl : xs.length = m) (hm : m ≤ 500) (hb : BufIs bc xs) (hs : Hid (so = true → xs.length ≤ 1)) (h : Strm w base S T Q QA B q e m so n lv bc) :
    Calls Try.prog 44 #[.pointer (some ⟨S, 0, none⟩)] w fun r w' => r = .returned (.tuple #[]) ∧
      ∃ ys bc', ys.Perm xs ∧ ys.Pairwise (fun a b => ltSmp b a = false) ∧ BufIs bc' ys ∧ Strm w' base S T Q QA B q e m true n lv bc' ∧ RowKit.Below base w w' ∧ KeptBut w w' S B := by
  have c2 := cell_of h.hS (i := 2) rfl
  have f2 := free_of h.hS (i := 2)
  have Hh := Lib.hid h
  clear h
  have Hs := Lib.hid (sortB_calls xs hl hm hb (Hh.out.setS2 true))
  have c1 := cell_of (Hh.out.setS2 true).hS (i := 1) rfl
  go_enter Try.func44, Try.ntmps44
  cases so with
  | true =>
    go_wp2
    go_end0
    have hx := hs.out trivial
    refine ⟨rfl, xs, .refl _, ?_, bc, hb, Hh.out, RowKit.Below.refl _ _, KeptBut.refl _ _ _⟩
    match xs, hx with
    | [], _ => exact .nil
    | [a], _ => simp
  | false =>
    go_wp2_with (go_at_call 54; refine Hs.out.mono ?_; rintro r w' ⟨rfl, hP⟩)
    go_end0
    obtain ⟨ys, bc', h1, h2, h3, h4, h5, h6⟩ := hP
    exact ⟨rfl, ys, bc', h1, h2, h3, h4, ((RowKit.Below.refl base w).setCell (p := ⟨S, 2, none⟩) Hh.out.lt.1 _).trans h5, KeptBut.trans ⟨by simp [World.setCell], fun b o n1 _ h => at_set_other _ (Ne.symm n1) h⟩ h6⟩

/-- The place that a query reads: the part k of sixteen, of l. -/
def placeOf (l k : Nat) : Nat := (l * k + 15) / 16 - 1

theorem get_map! (ys : List SmpF) (i : Nat) (h : i < ys.length) : ys[i]! = ys[i] := getElem!_pos ys i h

set_option maxRecDepth 100000 in
set_option maxHeartbeats 400000 in
/-- Query before the first flush. -/
theorem Query_few (xs : List SmpF) (k : Nat) (hk : k ≤ 16) (hl : xs.length = m) (hm : m ≤ 499) (hpos : 1 ≤ m) (hb : BufIs bc xs) (hs : Hid (so = true → xs.length ≤ 1)) (h : Strm w base S T Q QA B q e m so n (.slice none 0 0) bc) :
    Calls Try.prog 23 #[.pointer (some ⟨S, 0, none⟩), .float .f64 (FX k)] w fun r w' =>
      ∃ (ys : List SmpF) (bc' : Array Value), ys.Perm xs ∧ ys.Pairwise (fun a b => ltSmp b a = false) ∧ r = .returned (.float .f64 (ys[placeOf m k]!.v.b)) ∧ Strm w' base S T Q QA B q e m true n (.slice none 0 0) bc' ∧ RowKit.Below base w w' := by
  have hfl := Lib.hid (flushed_calls (w := w) (base := base) (S := S) (T := T) none 0 0 h)
  have c1 := cell_of h.hS (i := 1) rfl
  have hmk : m * k ≤ m * 16 := Nat.mul_le_mul_left m hk
  have hms : Hid (Calls Try.prog 44 #[.pointer (some ⟨S, 0, none⟩)] w fun r w' => r = .returned (.tuple #[]) ∧
      ∃ z, w'.cell? ⟨S, 1, none⟩ = some (.slice (some ⟨B, 0, none⟩) m 500) ∧ w'.cell? ⟨B, placeOf m k * 3, none⟩ = some (.float .f64 z) ∧
      Hid (∃ (ys : List SmpF) (bc' : Array Value), ys.Perm xs ∧ ys.Pairwise (fun a b => ltSmp b a = false) ∧ z = ys[placeOf m k]!.v.b ∧ Strm w' base S T Q QA B q e m true n (.slice none 0 0) bc' ∧ RowKit.Below base w w')) :=
    Lib.hid ((maybeSort_calls xs hl (by omega) hb hs h).mono fun r w' ⟨h1, ys, bc', h2, h3, h4, h5, h6, _⟩ => by
      have hyl : ys.length = m := by rw [h2.length_eq, hl]
      have hp : placeOf m k < ys.length := by unfold placeOf; omega
      refine ⟨h1, ys[placeOf m k]!.v.b, cell_of h5.hS rfl, cell_of h5.hB ?_, ⟨ys, bc', h2, h3, rfl, h5, h6⟩⟩
      have h7 := h4.2 (placeOf m k) hp 0 (by omega)
      rw [Nat.add_zero] at h7
      rw [some_of_get! (by rw [h5.bsize]; omega), h7]
      rfl)
  have hne : ¬ ((m : Int) = 0) := by omega
  have hml : ∀ w, (binOp .mul 26 (.float .f64 (floatOfInt .f64 m)) (.float .f64 (FX k))).run Try.prog w = .ok (.float .f64 (FX ((m * k : Nat) : Int))) w := fun w =>
    run_float_arith _ _ _ _ _ _ _ (by rw [FI_FX m (by omega)]; exact FX_mul (by omega) (by omega) (by omega) (by rw [Nat.mul_assoc]))
  obtain ⟨c, hc⟩ : ∃ c, c = (m * k + 15) / 16 := ⟨_, rfl⟩
  have hce := fun w => Lib.hid (ceil_calls (FX ((m * k : Nat) : Int)) (FX_lt _ (by omega)) w)
  rw [aboveOf_FX _ (by omega), ← hc] at hce
  have hcm : c ≤ m := by omega
  have hci : ∀ w, (convert 26 3 (.float .f64 (floatOfInt .f64 c))).run Try.prog w = .ok (.int .i64 c) w := fun w =>
    run_convert_float_int w _ _ _ _ _ _ (by rw [Try.underlying26]; rfl) Try.underlying3 (by
      rw [toInt_pos _ (FI_lt c (by omega)) (by rw [FI_FX c (by omega), wholeOf_FX _ (by omega)]; omega), FI_FX c (by omega), wholeOf_FX _ (by omega)]; congr 1; omega)
  have hpl : placeOf m k = c - 1 := by unfold placeOf; rw [hc]
  rw [hpl] at hms ⊢
  have hc1 : c - 1 < m := by omega
  clear h hc hmk hb hs hpl hl hk
  have hb2 : (m : Int) ≤ 499 := by omega
  have hb3 : (c : Int) ≤ 499 := by omega
  rcases Nat.eq_zero_or_pos c with h0 | h0
  · subst h0
    clear hcm hc1
    rw [show 0 - 1 = 0 from rfl, Nat.zero_mul] at hms
    rw [show 0 - 1 = 0 from rfl]
    replace hci : ∀ w, (convert 26 3 (.float .f64 (floatOfInt .f64 0))).run Try.prog w = .ok (.int .i64 0) w := hci
    go_enter Try.func23, Try.ntmps23
    go_wp2_with (first | (go_at_call 42; refine hfl.out.mono ?_; rintro r w' ⟨rfl, rfl⟩) | (go_at_call 43; refine (hce _).out.mono ?_; rintro r w' ⟨rfl, rfl⟩) | (go_at_call 44; refine hms.out.mono ?_; rintro r w' ⟨rfl, z, d1, d2, hP⟩))
    go_ret
    obtain ⟨ys, bc', h1, h2, rfl, h4, h5⟩ := hP.out
    exact ⟨ys, bc', h1, h2, rfl, h4, h5⟩
  · go_enter Try.func23, Try.ntmps23
    go_wp2_with (first | (go_at_call 42; refine hfl.out.mono ?_; rintro r w' ⟨rfl, rfl⟩) | (go_at_call 43; refine (hce _).out.mono ?_; rintro r w' ⟨rfl, rfl⟩) | (go_at_call 44; refine hms.out.mono ?_; rintro r w' ⟨rfl, z, d1, d2, hP⟩))
    go_ret
    obtain ⟨ys, bc', h1, h2, rfl, h4, h5⟩ := hP.out
    exact ⟨ys, bc', h1, h2, rfl, h4, h5⟩
end
end Go.Proofs.Ythcgojhfbcgaiaa
