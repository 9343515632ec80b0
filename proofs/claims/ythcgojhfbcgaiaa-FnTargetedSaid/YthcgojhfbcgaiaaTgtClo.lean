/- The closure of NewTargeted: what it allows at a rank. Conditions: the stream lies in memory. -/
import Derived.Test.YthcgojhfbcgaiaaTgtOps
import Derived.Test.YthcgojhfbcgaiaaTgtNum
import Derived.Test.YthcgojhfbcgaiaaCkmsF
namespace Go.Proofs.Ythcgojhfbcgaiaa
open Go.RowKit Go.Sort Go.Proofs Go.ChangeMaps

section
variable {w : World} {base S T Q QA B m : Nat} {so : Bool} {lv : Value} {bc : Array Value} {qf ef nf : Nat}
theorem run_mul {x y r : Nat} (h : Ieee.double.mul x y = some r) (w : World) : (binOp .mul 26 (.float .f64 x) (.float .f64 y)).run Try.prog w = .ok (.float .f64 r) w := run_float_arith _ _ _ _ _ _ _ h
theorem run_quo {x y r : Nat} (h : Ieee.double.div x y = some r) (w : World) : (binOp .quo 26 (.float .f64 x) (.float .f64 y)).run Try.prog w = .ok (.float .f64 r) w := run_float_arith _ _ _ _ _ _ _ h
theorem run_fsub {x y r : Nat} (h : Ieee.double.sub x y = some r) (w : World) : (binOp .sub 26 (.float .f64 x) (.float .f64 y)).run Try.prog w = .ok (.float .f64 r) w := run_float_arith _ _ _ _ _ _ _ h
theorem run_fadd {x y r : Nat} (h : Ieee.double.add x y = some r) (w : World) : (binOp .add 26 (.float .f64 x) (.float .f64 y)).run Try.prog w = .ok (.float .f64 r) w := run_float_arith _ _ _ _ _ _ _ h

/-- The closure's world behind it. -/
def cloW (w : World) (qf ef n : Nat) : World := (w.alloc (.cells #[.float .f64 qf, .float .f64 ef] 79)).drewN n

set_option maxRecDepth 100000 in
set_option maxHeartbeats 1000000 in
theorem clo_low (rf a e2 p G : Nat) (h : Strm w base S T Q QA B qf ef m so nf lv bc)
    (h1 : Ieee.double.mul qf nf = some a) (h2 : (Ieee.double.order a rf == some .lt || Ieee.double.order a rf == some .eq) = true)
    (h3 : Ieee.double.mul 4611686018427387904 ef = some e2) (h4 : Ieee.double.mul e2 rf = some p) (h5 : Ieee.double.div p qf = some G) (h6 : (Ieee.double.order G 9218868437227405311 == some .lt) = true) :
    Calls Try.prog 39 #[.pointer (some ⟨T, 0, none⟩), .float .f64 rf, .pointer (some ⟨Q, 0, none⟩)] w fun r w' => r = .returned (.float .f64 G) ∧ ∃ d, w' = cloW w qf ef d := by
  have c0 := cell_of h.hQ (i := 0) rfl
  have c1 := cell_of h.hQA (i := 0) rfl
  have c2 := cell_of h.hQA (i := 1) rfl
  have c3 := fun o => cell_of (at_alloc o h.hT) (i := 0) rfl
  have r1 := run_mul h1
  have r3 := run_mul h3
  have r4 := run_mul h4
  have r5 := run_quo h5
  have h2' : (FloatKind.f64.format.order a rf == some .lt || FloatKind.f64.format.order a rf == some .eq) = true := h2
  have h6' : (FloatKind.f64.format.order G 9218868437227405311 == some .lt) = true := h6
  clear h h1 h3 h4 h5 h2 h6
  go_enter Try.func39, Try.ntmps39
  go_wp2_with fail
  refine wp_loop_rounds 2 ?_
  rw [rounds_succ]
  go_wp2_with fail
  go_quiet (fail)
  go_wp2_with fail
  rw [rounds_succ]
  go_wp2_with fail
  go_ret
  exact ⟨rfl, nq, rfl⟩

set_option maxRecDepth 100000 in
set_option maxHeartbeats 1000000 in
theorem clo_high (rf a e2 p G df of : Nat) (h : Strm w base S T Q QA B qf ef m so nf lv bc)
    (h1 : Ieee.double.mul qf nf = some a) (h2 : (Ieee.double.order a rf == some .lt || Ieee.double.order a rf == some .eq) = false)
    (h3 : Ieee.double.mul 4611686018427387904 ef = some e2) (h7 : Ieee.double.sub nf rf = some df) (h4 : Ieee.double.mul e2 df = some p) (h8 : Ieee.double.sub 4607182418800017408 qf = some of) (h5 : Ieee.double.div p of = some G) (h6 : (Ieee.double.order G 9218868437227405311 == some .lt) = true) :
    Calls Try.prog 39 #[.pointer (some ⟨T, 0, none⟩), .float .f64 rf, .pointer (some ⟨Q, 0, none⟩)] w fun r w' => r = .returned (.float .f64 G) ∧ ∃ d, w' = cloW w qf ef d := by
  have c0 := cell_of h.hQ (i := 0) rfl
  have c1 := cell_of h.hQA (i := 0) rfl
  have c2 := cell_of h.hQA (i := 1) rfl
  have c3 := fun o => cell_of (at_alloc o h.hT) (i := 0) rfl
  have r1 := run_mul h1
  have r3 := run_mul h3
  have r4 := run_mul h4
  have r5 := run_quo h5
  have r7 := run_fsub h7
  have r8 := run_fsub h8
  have h2' : (FloatKind.f64.format.order a rf == some .lt || FloatKind.f64.format.order a rf == some .eq) = false := h2
  have h6' : (FloatKind.f64.format.order G 9218868437227405311 == some .lt) = true := h6
  clear h h1 h3 h4 h5 h2 h6 h7 h8
  go_enter Try.func39, Try.ntmps39
  go_wp2_with fail
  refine wp_loop_rounds 2 ?_
  rw [rounds_succ]
  go_wp2_with fail
  go_quiet (fail)
  go_wp2_with fail
  go_quiet (fail)
  go_wp2_with fail
  rw [rounds_succ]
  go_wp2_with fail
  go_ret
  exact ⟨rfl, _, rfl⟩
end

/-- What the closure tells, in bits. -/
def gOf (k r n : Nat) : Nat :=
  ((Ieee.double.mul eps2 (FP 4 (16 * (if k * n ≤ 16 * r then r else n - r)))).bind fun p => Ieee.double.div p (FP 4 (if k * n ≤ 16 * r then k else 16 - k))).getD 0

/-- Its whole part is what the plain law names; half of it, made whole upward. -/
theorem gOf_spec (k r n : Nat) (h1 : 1 ≤ k) (h2 : k ≤ 15) (hr : r ≤ n) (hn : n ≤ 1200) : gOf k r n < 9218868437227405311 ∧ FP 0 (Ckms.Fq k r n) ≤ gOf k r n ∧ gOf k r n ≤ FP 20 (2 ^ 20 * (Ckms.Fq k r n + 1) - 1) := by
  unfold gOf Ckms.Fq
  by_cases h : k * n ≤ 16 * r
  · simp only [if_pos h]
    obtain ⟨p, G, H, e1, e2, e3, e4, e5, e6, e7, _⟩ := allowed r k (by omega) h1 h2
    rw [e1]; simp only [Option.bind_some]; rw [e2]; exact ⟨e4, e6, e7⟩
  · simp only [if_neg h]
    obtain ⟨p, G, H, e1, e2, e3, e4, e5, e6, e7, _⟩ := allowed (n - r) (16 - k) (by omega) (by omega) (by omega)
    rw [e1]; simp only [Option.bind_some]; rw [e2]; exact ⟨e4, e6, e7⟩
theorem gOf_half (k r n : Nat) (h1 : 1 ≤ k) (h2 : k ≤ 15) (hn : r ≤ 1200) (h : k * n ≤ 16 * r) (hr : 0 < r) : ∃ H, Ieee.double.div (gOf k r n) 4611686018427387904 = some H ∧ H < 2047 * 2 ^ 52 ∧
    FP 20 (2 ^ 20 * ((8 * r + 25 * k - 1) / (25 * k) - 1) + 1) ≤ H ∧ H ≤ FP 0 ((8 * r + 25 * k - 1) / (25 * k)) := by
  unfold gOf
  simp only [if_pos h]
  obtain ⟨p, G, H, e1, e2, e3, e4, e5, e6, e7, e8, e9⟩ := allowed r k hn h1 h2
  rw [e1]; simp only [Option.bind_some]; rw [e2]
  exact ⟨H, e3, e5, e8 hr, e9⟩

theorem FX_FP' (j : Nat) : FX ((j : Nat) : Int) = FP 4 j := FX_FP j
theorem one_FX : (4607182418800017408 : Nat) = FX ((16 : Nat) : Int) := by decide +kernel

/-- THE CLOSURE. -/
theorem clo_calls {w : World} {base S T Q QA B m : Nat} {so : Bool} {lv : Value} {bc : Array Value} (k r n : Nat) (h1 : 1 ≤ k) (h2 : k ≤ 15) (hr : r ≤ n) (hn : n ≤ 1200)
    (h : Strm w base S T Q QA B (FX (k : Int)) 4581421828931458171 m so (floatOfInt .f64 n) lv bc) :
    Calls Try.prog 39 #[.pointer (some ⟨T, 0, none⟩), .float .f64 (floatOfInt .f64 r), .pointer (some ⟨Q, 0, none⟩)] w fun e w' => e = .returned (.float .f64 (gOf k r n)) ∧ ∃ d, w' = cloW w (FX (k : Int)) 4581421828931458171 d := by
  have hkn : k * n ≤ 15 * 1200 := Nat.mul_le_mul h2 hn
  have e1 : Ieee.double.mul (FX (k : Int)) (floatOfInt .f64 n) = some (FX ((k * n : Nat) : Int)) := by
    rw [FI_FX n (by omega)]; exact FX_mul (by omega) (by omega) (by omega) (by rw [← Nat.mul_assoc, Nat.mul_comm k 16, Nat.mul_assoc])
  have eo := FX_order (i := ((k * n : Nat) : Int)) (j := ((16 * r : Nat) : Int)) (by omega) (by omega)
  have hG := gOf_spec k r n h1 h2 hr hn
  have hm : (Ieee.double.order (gOf k r n) 9218868437227405311 == some .lt) = true := by
    rw [order_pos (by omega) (by omega), Nat.compare_eq_lt.2 hG.1]; rfl
  by_cases hc : k * n ≤ 16 * r
  · obtain ⟨p, G, H, f1, f2, _⟩ := allowed r k (by omega) h1 h2
    have hg : gOf k r n = G := by unfold gOf; simp only [if_pos hc]; rw [f1]; simp only [Option.bind_some]; rw [f2]; rfl
    rw [hg] at hm ⊢
    refine clo_low _ _ _ _ _ h e1 ?_ eps2_mul (by rw [FI_FX r (by omega), FX_FP']; exact f1) (by rw [FX_FP']; exact f2) hm
    rw [FI_FX r (by omega), eo]
    rcases Int.lt_or_eq_of_le (show ((k * n : Nat) : Int) ≤ ((16 * r : Nat) : Int) by omega) with h | h
    · rw [show compare ((k * n : Nat) : Int) ((16 * r : Nat) : Int) = .lt by simp only [compare, compareOfLessAndEq]; rw [if_pos h]]; rfl
    · rw [h, show compare ((16 * r : Nat) : Int) ((16 * r : Nat) : Int) = .eq by simp only [compare, compareOfLessAndEq]; rw [if_neg (by omega)]; rfl]; rfl
  · obtain ⟨p, G, H, f1, f2, _⟩ := allowed (n - r) (16 - k) (by omega) (by omega) (by omega)
    have hg : gOf k r n = G := by unfold gOf; simp only [if_neg hc]; rw [f1]; simp only [Option.bind_some]; rw [f2]; rfl
    rw [hg] at hm ⊢
    refine clo_high _ _ _ _ _ _ _ h e1 ?_ eps2_mul ?_ f1 ?_ f2 hm
    · rw [FI_FX r (by omega), eo]
      rw [show compare ((k * n : Nat) : Int) ((16 * r : Nat) : Int) = .gt by simp only [compare, compareOfLessAndEq]; rw [if_neg (by omega), if_neg (by omega)]]; rfl
    · rw [FI_FX n (by omega), FI_FX r (by omega), FX_sub (by omega) (by omega), ← FX_FP']
      congr 2; omega
    · rw [one_FX, FX_sub (by omega) (by omega), ← FX_FP']
      congr 2; omega
end Go.Proofs.Ythcgojhfbcgaiaa
