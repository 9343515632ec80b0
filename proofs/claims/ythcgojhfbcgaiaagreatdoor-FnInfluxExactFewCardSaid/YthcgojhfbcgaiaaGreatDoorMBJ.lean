/- The closure of NewTargeted: what it allows at a rank. Conditions: the stream lies in memory. The stream's Insert, maybeSort, and Query before the first flush. -/
import Derived.Test.YthcgojhfbcgaiaaGreatDoorMBF
import Derived.Test.YthcgojhfbcgaiaaGreatDoorMBG
import Derived.Test.YthcgojhfbcgaiaaGreatDoorMBI

namespace Go.Proofs.YthcgojhfbcgaiaaGreatDoor
open Go.RowKit Go.Sort Go.Proofs Go.ChangeMaps

section
variable {w : World} {base S T Q QA B m : Nat} {so : Bool} {lv : Value} {bc : Array Value} {qf ef nf : Nat}
theorem run_mul {x y r : Nat} (h : Ieee.double.mul x y = some r) (w : World) : (binOp .mul 29 (.float .f64 x) (.float .f64 y)).run Tryz.prog w = .ok (.float .f64 r) w := run_float_arith _ _ _ _ _ _ _ h
theorem run_quo {x y r : Nat} (h : Ieee.double.div x y = some r) (w : World) : (binOp .quo 29 (.float .f64 x) (.float .f64 y)).run Tryz.prog w = .ok (.float .f64 r) w := run_float_arith _ _ _ _ _ _ _ h
theorem run_fsub {x y r : Nat} (h : Ieee.double.sub x y = some r) (w : World) : (binOp .sub 29 (.float .f64 x) (.float .f64 y)).run Tryz.prog w = .ok (.float .f64 r) w := run_float_arith _ _ _ _ _ _ _ h
theorem run_fadd {x y r : Nat} (h : Ieee.double.add x y = some r) (w : World) : (binOp .add 29 (.float .f64 x) (.float .f64 y)).run Tryz.prog w = .ok (.float .f64 r) w := run_float_arith _ _ _ _ _ _ _ h

/-- The closure's world behind it. -/
def cloW (w : World) (qf ef n : Nat) : World := (w.alloc (.cells #[.float .f64 qf, .float .f64 ef] 84)).drewN n

set_option maxRecDepth 100000 in
set_option maxHeartbeats 1000000 in
theorem clo_low (rf a e2 p G : Nat) (h : Strm w base S T Q QA B qf ef m so nf lv bc)
    (h1 : Ieee.double.mul qf nf = some a) (h2 : (Ieee.double.order a rf == some .lt || Ieee.double.order a rf == some .eq) = true)
    (h3 : Ieee.double.mul 4611686018427387904 ef = some e2) (h4 : Ieee.double.mul e2 rf = some p) (h5 : Ieee.double.div p qf = some G) (h6 : (Ieee.double.order G 9218868437227405311 == some .lt) = true) :
    Calls Tryz.prog 56 #[.pointer (some ⟨T, 0, none⟩), .float .f64 rf, .pointer (some ⟨Q, 0, none⟩)] w fun r w' => r = .returned (.float .f64 G) ∧ ∃ d, w' = cloW w qf ef d := by
  have c0 := cell_of h.hQ (i := 0) rfl
  have c1 := cell_of h.hQA (i := 0) rfl
  have c2 := cell_of h.hQA (i := 1) rfl
  have c3 := fun o => cell_of (at_alloc o h.hT) (i := 0) rfl
  have r1 := run_mul h1
  have r3 := run_mul h3
  have r4 := run_mul h4
  have r5 := run_quo h5
  have h2' : (FloatKind.f64.format.order a rf == some .lt || FloatKind.f64.format.order a rf == some .eq) = true := h2
  have h6' : (FloatKind.f64.format.order G 9218868437227405311 == some .lt) = true := h6
  clear h h1 h3 h4 h5 h2 h6
  go_enter Tryz.func56, Tryz.ntmps56
  go_wp2_with fail
  refine wp_loop_rounds 2 ?_
  rw [rounds_succ]
  go_wp2_with fail
  go_quiet (fail)
  go_wp2_with fail
  rw [rounds_succ]
  go_wp2_with fail
  go_ret
  exact ⟨rfl, nq, rfl⟩

set_option maxRecDepth 100000 in
set_option maxHeartbeats 1000000 in
theorem clo_high (rf a e2 p G df of : Nat) (h : Strm w base S T Q QA B qf ef m so nf lv bc)
    (h1 : Ieee.double.mul qf nf = some a) (h2 : (Ieee.double.order a rf == some .lt || Ieee.double.order a rf == some .eq) = false)
    (h3 : Ieee.double.mul 4611686018427387904 ef = some e2) (h7 : Ieee.double.sub nf rf = some df) (h4 : Ieee.double.mul e2 df = some p) (h8 : Ieee.double.sub 4607182418800017408 qf = some of) (h5 : Ieee.double.div p of = some G) (h6 : (Ieee.double.order G 9218868437227405311 == some .lt) = true) :
    Calls Tryz.prog 56 #[.pointer (some ⟨T, 0, none⟩), .float .f64 rf, .pointer (some ⟨Q, 0, none⟩)] w fun r w' => r = .returned (.float .f64 G) ∧ ∃ d, w' = cloW w qf ef d := by
  have c0 := cell_of h.hQ (i := 0) rfl
  have c1 := cell_of h.hQA (i := 0) rfl
  have c2 := cell_of h.hQA (i := 1) rfl
  have c3 := fun o => cell_of (at_alloc o h.hT) (i := 0) rfl
  have r1 := run_mul h1
  have r3 := run_mul h3
  have r4 := run_mul h4
  have r5 := run_quo h5
  have r7 := run_fsub h7
  have r8 := run_fsub h8
  have h2' : (FloatKind.f64.format.order a rf == some .lt || FloatKind.f64.format.order a rf == some .eq) = false := h2
  have h6' : (FloatKind.f64.format.order G 9218868437227405311 == some .lt) = true := h6
  clear h h1 h3 h4 h5 h2 h6 h7 h8
  go_enter Tryz.func56, Tryz.ntmps56
  go_wp2_with fail
  refine wp_loop_rounds 2 ?_
  rw [rounds_succ]
  go_wp2_with fail
  go_quiet (fail)
  go_wp2_with fail
  go_quiet (fail)
  go_wp2_with fail
  rw [rounds_succ]
  go_wp2_with fail
  go_ret
  exact ⟨rfl, _, rfl⟩
end

/-- What the closure tells, in bits. -/
def gOf (k r n : Nat) : Nat :=
  ((Ieee.double.mul eps2 (FP 4 (16 * (if k * n ≤ 16 * r then r else n - r)))).bind fun p => Ieee.double.div p (FP 4 (if k * n ≤ 16 * r then k else 16 - k))).getD 0

/-- Its whole part is what the plain law names; half of it, made whole upward. -/
theorem gOf_spec (k r n : Nat) (h1 : 1 ≤ k) (h2 : k ≤ 15) (hr : r ≤ n) (hn : n ≤ 1200) : gOf k r n < 9218868437227405311 ∧ FP 0 (Ckms.Fq k r n) ≤ gOf k r n ∧ gOf k r n ≤ FP 20 (2 ^ 20 * (Ckms.Fq k r n + 1) - 1) := by
  unfold gOf Ckms.Fq
  by_cases h : k * n ≤ 16 * r
  · simp only [if_pos h]
    obtain ⟨p, G, H, e1, e2, e3, e4, e5, e6, e7, _⟩ := allowed r k (by omega) h1 h2
    rw [e1]; simp only [Option.bind_some]; rw [e2]; exact ⟨e4, e6, e7⟩
  · simp only [if_neg h]
    obtain ⟨p, G, H, e1, e2, e3, e4, e5, e6, e7, _⟩ := allowed (n - r) (16 - k) (by omega) (by omega) (by omega)
    rw [e1]; simp only [Option.bind_some]; rw [e2]; exact ⟨e4, e6, e7⟩
theorem gOf_half (k r n : Nat) (h1 : 1 ≤ k) (h2 : k ≤ 15) (hn : r ≤ 1200) (h : k * n ≤ 16 * r) (hr : 0 < r) : ∃ H, Ieee.double.div (gOf k r n) 4611686018427387904 = some H ∧ H < 2047 * 2 ^ 52 ∧
    FP 20 (2 ^ 20 * ((8 * r + 25 * k - 1) / (25 * k) - 1) + 1) ≤ H ∧ H ≤ FP 0 ((8 * r + 25 * k - 1) / (25 * k)) := by
  unfold gOf
  simp only [if_pos h]
  obtain ⟨p, G, H, e1, e2, e3, e4, e5, e6, e7, e8, e9⟩ := allowed r k hn h1 h2
  rw [e1]; simp only [Option.bind_some]; rw [e2]
  exact ⟨H, e3, e5, e8 hr, e9⟩

theorem FX_FP' (j : Nat) : FX ((j : Nat) : Int) = FP 4 j := FX_FP j
theorem one_FX : (4607182418800017408 : Nat) = FX ((16 : Nat) : Int) := by decide +kernel

/-- THE CLOSURE. -/
theorem clo_calls {w : World} {base S T Q QA B m : Nat} {so : Bool} {lv : Value} {bc : Array Value} (k r n : Nat) (h1 : 1 ≤ k) (h2 : k ≤ 15) (hr : r ≤ n) (hn : n ≤ 1200)
    (h : Strm w base S T Q QA B (FX (k : Int)) 4581421828931458171 m so (floatOfInt .f64 n) lv bc) :
    Calls Tryz.prog 56 #[.pointer (some ⟨T, 0, none⟩), .float .f64 (floatOfInt .f64 r), .pointer (some ⟨Q, 0, none⟩)] w fun e w' => e = .returned (.float .f64 (gOf k r n)) ∧ ∃ d, w' = cloW w (FX (k : Int)) 4581421828931458171 d := by
  have hkn : k * n ≤ 15 * 1200 := Nat.mul_le_mul h2 hn
  have e1 : Ieee.double.mul (FX (k : Int)) (floatOfInt .f64 n) = some (FX ((k * n : Nat) : Int)) := by
    rw [FI_FX n (by omega)]; exact FX_mul (by omega) (by omega) (by omega) (by rw [← Nat.mul_assoc, Nat.mul_comm k 16, Nat.mul_assoc])
  have eo := FX_order (i := ((k * n : Nat) : Int)) (j := ((16 * r : Nat) : Int)) (by omega) (by omega)
  have hG := gOf_spec k r n h1 h2 hr hn
  have hm : (Ieee.double.order (gOf k r n) 9218868437227405311 == some .lt) = true := by
    rw [order_pos (by omega) (by omega), Nat.compare_eq_lt.2 hG.1]; rfl
  by_cases hc : k * n ≤ 16 * r
  · obtain ⟨p, G, H, f1, f2, _⟩ := allowed r k (by omega) h1 h2
    have hg : gOf k r n = G := by unfold gOf; simp only [if_pos hc]; rw [f1]; simp only [Option.bind_some]; rw [f2]; rfl
    rw [hg] at hm ⊢
    refine clo_low _ _ _ _ _ h e1 ?_ eps2_mul (by rw [FI_FX r (by omega), FX_FP']; exact f1) (by rw [FX_FP']; exact f2) hm
    rw [FI_FX r (by omega), eo]
    rcases Int.lt_or_eq_of_le (show ((k * n : Nat) : Int) ≤ ((16 * r : Nat) : Int) by omega) with h | h
    · rw [show compare ((k * n : Nat) : Int) ((16 * r : Nat) : Int) = .lt by simp only [compare, compareOfLessAndEq]; rw [if_pos h]]; rfl
    · rw [h, show compare ((16 * r : Nat) : Int) ((16 * r : Nat) : Int) = .eq by simp only [compare, compareOfLessAndEq]; rw [if_neg (by omega)]; rfl]; rfl
  · obtain ⟨p, G, H, f1, f2, _⟩ := allowed (n - r) (16 - k) (by omega) (by omega) (by omega)
    have hg : gOf k r n = G := by unfold gOf; simp only [if_neg hc]; rw [f1]; simp only [Option.bind_some]; rw [f2]; rfl
    rw [hg] at hm ⊢
    refine clo_high _ _ _ _ _ _ _ h e1 ?_ eps2_mul ?_ f1 ?_ f2 hm
    · rw [FI_FX r (by omega), eo]
      rw [show compare ((k * n : Nat) : Int) ((16 * r : Nat) : Int) = .gt by simp only [compare, compareOfLessAndEq]; rw [if_neg (by omega), if_neg (by omega)]]; rfl
    · rw [FI_FX n (by omega), FI_FX r (by omega), FX_sub (by omega) (by omega), ← FX_FP']
      congr 2; omega
    · rw [one_FX, FX_sub (by omega) (by omega), ← FX_FP']
      congr 2; omega
end Go.Proofs.YthcgojhfbcgaiaaGreatDoor

namespace Go.Proofs.YthcgojhfbcgaiaaGreatDoor
open Go.RowKit Go.Sort Go.Proofs

section
variable {w : World} {base S T Q QA B q e m : Nat} {so : Bool} {n : Nat} {lv : Value} {bc : Array Value}

/-- A value that comes in: width one, delta nothing. -/
def oneSmp (v : FNN) : SmpF := ⟨v, FX 16, FX 0⟩
theorem one_bits : FX 16 = 4607182418800017408 := by decide +kernel
theorem zero_bits : FX 0 = 0 := by decide +kernel

set_option maxHeartbeats 400000 in
theorem Insert_any (v : FNN) (hm : m < 500) (Post : Ending → World → Prop) (h : Strm w base S T Q QA B q e m so n lv bc)
    (hno : Hid (m < 499 → ∀ Y, Strm Y base S T Q QA B q e (m + 1) false n lv (setMany bc (m * 3) (encSmp (oneSmp v))) → Below base w Y → KeptBut w Y S B → Post (.returned (.tuple #[])) Y))
    (hfl : Hid (m = 499 → ∀ Y, Strm Y base S T Q QA B q e 500 false n lv (setMany bc (m * 3) (encSmp (oneSmp v))) → Below base w Y → KeptBut w Y S B →
      Calls Tryz.prog 61 #[.pointer (some ⟨S, 0, none⟩)] Y fun r w' => r = .returned (.tuple #[]) ∧ Post r w')) :
    Calls Tryz.prog 36 #[.pointer (some ⟨S, 0, none⟩), .float .f64 v.b] w Post := by
  have hi := insert_any (oneSmp v) hm (fun r w' => r = .returned (.tuple #[]) ∧ Post r w') h (Lib.hid fun a b c d f => ⟨rfl, hno.out a b c d f⟩) (Lib.hid fun a b c d f => (hfl.out a b c d f).mono fun r w' ⟨h1, h2⟩ => ⟨h1, h1, h2⟩)
  have hi' : Calls Tryz.prog 58 #[.pointer (some ⟨S, 0, none⟩), .agg #[.float .f64 v.b, .float .f64 4607182418800017408, .float .f64 0]] w (fun r w' => r = .returned (.tuple #[]) ∧ Post r w') := by
    have := hi; unfold oneSmp at this; rw [one_bits, zero_bits] at this; exact this
  have Hi := Lib.hid hi'
  clear hi hi' hno hfl h
  go_enter Tryz.func36, Tryz.ntmps36
  go_wp2_with (go_at_call 58; refine Hi.out.mono ?_; rintro r w' ⟨rfl, hP⟩)
  go_end0
  exact hP

theorem Strm.setS2 (h : Strm w base S T Q QA B q e m so n lv bc) (b : Bool) : Strm (w.setCell ⟨S, 2, none⟩ (.bool b)) base S T Q QA B q e m b n lv bc := by
  obtain ⟨hne1, hne2, hne3, hne4, hne5, hne6, hne7, hne8, hne9, hne10⟩ := h.ne
  exact ⟨at_set h.hS 2 _, at_set_other _ hne1 h.hT, at_set_other _ hne2 h.hQ, at_set_other _ hne3 h.hQA, at_set_other _ hne4 h.hB, h.bsize, h.lt, h.ne⟩
theorem at_grow {b : Nat} {o : Obj} (os : Array Obj) (h : w.heap[b]? = some o) : (grow w os).heap[b]? = some o := by
  have := lt_of_at h
  show (w.heap ++ os)[b]? = _
  rw [Array.getElem?_append_left this]; exact h
theorem below_grow {base : Nat} {a : World} (h : RowKit.Below base a w) (hb : base ≤ w.heap.size) (os : Array Obj) : RowKit.Below base a (grow w os) := by
  refine ⟨h.os, h.tape, h.output, ?_, fun k hk => ?_⟩
  · have := h.size; show _ ≤ (w.heap ++ os).size; simp; omega
  · rw [← h.block k hk]; show (w.heap ++ os)[k]? = _; rw [Array.getElem?_append_left (by omega)]
theorem below_putRowK {base : Nat} {a : World} (hB : base ≤ B) (h : RowKit.Below base a w) (d : Array SmpF) : RowKit.Below base a (putRowK encSmp 3 w B 0 d) := by
  refine ⟨h.os, h.tape, h.output, ?_, fun k hk => ?_⟩
  · rw [size_putRowK]; exact h.size
  · rw [← h.block k hk]; simp only [putRowK, putRow, mapBlock, Array.getElem?_modify]; rw [if_neg (by omega)]

/-- The stream's own sort of its buffer. -/
theorem sortB_calls (xs : List SmpF) (hl : xs.length = m) (hm : m ≤ 500) (hb : BufIs bc xs) (h : Strm w base S T Q QA B q e m so n lv bc) :
    Calls Tryz.prog 47 #[.iface 94 (.slice (some ⟨B, 0, none⟩) m 500)] w fun r w' => r = .returned (.tuple #[]) ∧
      ∃ ys bc', ys.Perm xs ∧ ys.Pairwise (fun a b => ltSmp b a = false) ∧ BufIs bc' ys ∧ Strm w' base S T Q QA B q e m so n lv bc' ∧ RowKit.Below base w w' ∧ KeptBut w w' S B := by
  obtain ⟨hne1, hne2, hne3, hne4, hne5, hne6, hne7, hne8, hne9, hne10⟩ := h.ne
  rcases Nat.lt_or_ge m 2 with h1 | h2
  · refine (smp_Sort_tiny _ m 500 w (by omega)).mono ?_
    rintro r w' ⟨rfl, j, rfl⟩
    refine ⟨rfl, xs, bc, .refl _, ?_, hb, h.drewN j, below_drewN (RowKit.Below.refl _ _) j, KeptBut.refl _ _ _⟩
    match xs, hl with
    | [], _ => exact .nil
    | [a], _ => simp
    | a :: b :: r, hl => simp at hl; omega
  · refine (smp_Sort B 0 m 500 w xs.toArray (by simp [hl]) h2 (by omega) (hb.holds h.hB) (lt_of_at h.hB)).mono ?_
    rintro r w' ⟨rfl, d', k, os, hp, hsd, rfl⟩
    have hds : d'.size = xs.length := by rw [hp.1]; simp
    have hB' : (Sort.ahead w k).heap[B]? = _ := h.hB
    obtain ⟨bc', e1, e2, e3⟩ := at_putRowK d' hB' (by rw [hds, hl, h.bsize]; omega)
    refine ⟨rfl, d'.toList, bc', ?_, ?_, e3, ⟨at_grow _ (at_putRowK_other _ (by omega) h.hS), at_grow _ (at_putRowK_other _ (by omega) h.hT), at_grow _ (at_putRowK_other _ (by omega) h.hQ), at_grow _ (at_putRowK_other _ (by omega) h.hQA), at_grow _ e1, by rw [e2]; exact h.bsize, h.lt, h.ne⟩, ?_, ?_, fun b o _ hB ho => at_grow _ (at_putRowK_other _ (Ne.symm hB) ho)⟩
    · have := hp.2.2
      rw [Array.extract_eq_self_of_le (by omega), Array.extract_eq_self_of_le (by simp; omega)] at this
      simpa using this
    · rw [List.pairwise_iff_getElem]
      intro i j hi hj hij
      have := hsd i j (by omega) hij (by simp at hj; omega)
      simp at hi hj
      rw [getElem!_pos d' i hi, getElem!_pos d' j hj] at this
      simpa using this
    · exact below_grow (below_putRowK (w := Sort.ahead w k) (a := w) h.lt.2.2.2.2 ⟨rfl, rfl, rfl, Nat.le_refl _, fun _ _ => rfl⟩ _) (by simp only [putRowK, putRow, mapBlock, Array.size_modify]; exact h.below) _
    · show w.heap.size ≤ ((putRowK encSmp 3 (Sort.ahead w k) B 0 d').heap ++ os).size
      rw [Array.size_append]
      have : (putRowK encSmp 3 (Sort.ahead w k) B 0 d').heap.size = w.heap.size := by simp only [putRowK, putRow, mapBlock, Array.size_modify]; rfl
      omega

set_option maxHeartbeats 400000 in
/-- maybeSort: the buffer's samples in order. -/
theorem maybeSort_calls (xs : List SmpF) (hl : xs.length = m) (hm : m ≤ 500) (hb : BufIs bc xs) (hs : Hid (so = true → xs.length ≤ 1)) (h : Strm w base S T Q QA B q e m so n lv bc) :
    Calls Tryz.prog 60 #[.pointer (some ⟨S, 0, none⟩)] w fun r w' => r = .returned (.tuple #[]) ∧
      ∃ ys bc', ys.Perm xs ∧ ys.Pairwise (fun a b => ltSmp b a = false) ∧ BufIs bc' ys ∧ Strm w' base S T Q QA B q e m true n lv bc' ∧ RowKit.Below base w w' ∧ KeptBut w w' S B := by
  have c2 := cell_of h.hS (i := 2) rfl
  have f2 := free_of h.hS (i := 2)
  have Hh := Lib.hid h
  clear h
  have Hs := Lib.hid (sortB_calls xs hl hm hb (Hh.out.setS2 true))
  have c1 := cell_of (Hh.out.setS2 true).hS (i := 1) rfl
  go_enter Tryz.func60, Tryz.ntmps60
  cases so with
  | true =>
    go_wp2
    go_end0
    have hx := hs.out trivial
    refine ⟨rfl, xs, .refl _, ?_, bc, hb, Hh.out, RowKit.Below.refl _ _, KeptBut.refl _ _ _⟩
    match xs, hx with
    | [], _ => exact .nil
    | [a], _ => simp
  | false =>
    go_wp2_with (go_at_call 47; refine Hs.out.mono ?_; rintro r w' ⟨rfl, hP⟩)
    go_end0
    obtain ⟨ys, bc', h1, h2, h3, h4, h5, h6⟩ := hP
    exact ⟨rfl, ys, bc', h1, h2, h3, h4, ((RowKit.Below.refl base w).setCell (p := ⟨S, 2, none⟩) Hh.out.lt.1 _).trans h5, KeptBut.trans ⟨by simp [World.setCell], fun b o n1 _ h => at_set_other _ (Ne.symm n1) h⟩ h6⟩

/-- The place that a query reads: the part k of sixteen, of l. -/
def placeOf (l k : Nat) : Nat := (l * k + 15) / 16 - 1

theorem get_map! (ys : List SmpF) (i : Nat) (h : i < ys.length) : ys[i]! = ys[i] := getElem!_pos ys i h

set_option maxRecDepth 100000 in
set_option maxHeartbeats 400000 in
/-- Query before the first flush. -/
theorem Query_few (xs : List SmpF) (k : Nat) (hk : k ≤ 16) (hl : xs.length = m) (hm : m ≤ 499) (hpos : 1 ≤ m) (hb : BufIs bc xs) (hs : Hid (so = true → xs.length ≤ 1)) (h : Strm w base S T Q QA B q e m so n (.slice none 0 0) bc) :
    Calls Tryz.prog 37 #[.pointer (some ⟨S, 0, none⟩), .float .f64 (FX k)] w fun r w' =>
      ∃ (ys : List SmpF) (bc' : Array Value), ys.Perm xs ∧ ys.Pairwise (fun a b => ltSmp b a = false) ∧ r = .returned (.float .f64 (ys[placeOf m k]!.v.b)) ∧ Strm w' base S T Q QA B q e m true n (.slice none 0 0) bc' ∧ RowKit.Below base w w' := by
  have hfl := Lib.hid (flushed_calls (w := w) (base := base) (S := S) (T := T) none 0 0 h)
  have c1 := cell_of h.hS (i := 1) rfl
  have hmk : m * k ≤ m * 16 := Nat.mul_le_mul_left m hk
  have hms : Hid (Calls Tryz.prog 60 #[.pointer (some ⟨S, 0, none⟩)] w fun r w' => r = .returned (.tuple #[]) ∧
      ∃ z, w'.cell? ⟨S, 1, none⟩ = some (.slice (some ⟨B, 0, none⟩) m 500) ∧ w'.cell? ⟨B, placeOf m k * 3, none⟩ = some (.float .f64 z) ∧
      Hid (∃ (ys : List SmpF) (bc' : Array Value), ys.Perm xs ∧ ys.Pairwise (fun a b => ltSmp b a = false) ∧ z = ys[placeOf m k]!.v.b ∧ Strm w' base S T Q QA B q e m true n (.slice none 0 0) bc' ∧ RowKit.Below base w w')) :=
    Lib.hid ((maybeSort_calls xs hl (by omega) hb hs h).mono fun r w' ⟨h1, ys, bc', h2, h3, h4, h5, h6, _⟩ => by
      have hyl : ys.length = m := by rw [h2.length_eq, hl]
      have hp : placeOf m k < ys.length := by unfold placeOf; omega
      refine ⟨h1, ys[placeOf m k]!.v.b, cell_of h5.hS rfl, cell_of h5.hB ?_, ⟨ys, bc', h2, h3, rfl, h5, h6⟩⟩
      have h7 := h4.2 (placeOf m k) hp 0 (by omega)
      rw [Nat.add_zero] at h7
      rw [some_of_get! (by rw [h5.bsize]; omega), h7]
      rfl)
  have hne : ¬ ((m : Int) = 0) := by omega
  have hml : ∀ w, (binOp .mul 29 (.float .f64 (floatOfInt .f64 m)) (.float .f64 (FX k))).run Tryz.prog w = .ok (.float .f64 (FX ((m * k : Nat) : Int))) w := fun w =>
    run_float_arith _ _ _ _ _ _ _ (by rw [FI_FX m (by omega)]; exact FX_mul (by omega) (by omega) (by omega) (by rw [Nat.mul_assoc]))
  obtain ⟨c, hc⟩ : ∃ c, c = (m * k + 15) / 16 := ⟨_, rfl⟩
  have hce := fun w => Lib.hid (ceil_calls (FX ((m * k : Nat) : Int)) (FX_lt _ (by omega)) w)
  rw [aboveOf_FX _ (by omega), ← hc] at hce
  have hcm : c ≤ m := by omega
  have hci : ∀ w, (convert 29 3 (.float .f64 (floatOfInt .f64 c))).run Tryz.prog w = .ok (.int .i64 c) w := fun w =>
    run_convert_float_int w _ _ _ _ _ _ (by rw [Tryz.underlying29]; rfl) Tryz.underlying3 (by
      rw [toInt_pos _ (FI_lt c (by omega)) (by rw [FI_FX c (by omega), wholeOf_FX _ (by omega)]; omega), FI_FX c (by omega), wholeOf_FX _ (by omega)]; congr 1; omega)
  have hpl : placeOf m k = c - 1 := by unfold placeOf; rw [hc]
  rw [hpl] at hms ⊢
  have hc1 : c - 1 < m := by omega
  clear h hc hmk hb hs hpl hl hk
  have hb2 : (m : Int) ≤ 499 := by omega
  have hb3 : (c : Int) ≤ 499 := by omega
  rcases Nat.eq_zero_or_pos c with h0 | h0
  · subst h0
    clear hcm hc1
    rw [show 0 - 1 = 0 from rfl, Nat.zero_mul] at hms
    rw [show 0 - 1 = 0 from rfl]
    replace hci : ∀ w, (convert 29 3 (.float .f64 (floatOfInt .f64 0))).run Tryz.prog w = .ok (.int .i64 0) w := hci
    go_enter Tryz.func37, Tryz.ntmps37
    go_wp2_with (first | (go_at_call 59; refine hfl.out.mono ?_; rintro r w' ⟨rfl, rfl⟩) | (go_at_call 46; refine (hce _).out.mono ?_; rintro r w' ⟨rfl, rfl⟩) | (go_at_call 60; refine hms.out.mono ?_; rintro r w' ⟨rfl, z, d1, d2, hP⟩))
    go_ret
    obtain ⟨ys, bc', h1, h2, rfl, h4, h5⟩ := hP.out
    exact ⟨ys, bc', h1, h2, rfl, h4, h5⟩
  · go_enter Tryz.func37, Tryz.ntmps37
    go_wp2_with (first | (go_at_call 59; refine hfl.out.mono ?_; rintro r w' ⟨rfl, rfl⟩) | (go_at_call 46; refine (hce _).out.mono ?_; rintro r w' ⟨rfl, rfl⟩) | (go_at_call 60; refine hms.out.mono ?_; rintro r w' ⟨rfl, z, d1, d2, hP⟩))
    go_ret
    obtain ⟨ys, bc', h1, h2, rfl, h4, h5⟩ := hP.out
    exact ⟨ys, bc', h1, h2, rfl, h4, h5⟩
end
end Go.Proofs.YthcgojhfbcgaiaaGreatDoor
