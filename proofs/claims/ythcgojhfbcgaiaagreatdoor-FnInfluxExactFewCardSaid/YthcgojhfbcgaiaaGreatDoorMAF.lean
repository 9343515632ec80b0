/- Floats of either sign of at most so many whole units; floats that are not negative between whole numbers. Plain lemmas. math.xatan, satan: some float, of a told size. Conditions: the argument's size. -/
import Derived.Test.YthcgojhfbcgaiaaGreatDoorMAE
import Derived.Deep.QuietTactic
import Derived.WalkKit
import Derived.Lib.Hide
import Derived.Test.YthcgojhfbcgaiaaGreatDoorMAC
import Derived.Test.YthcgojhfbcgaiaaGreatDoorProg

namespace Go.Proofs.YthcgojhfbcgaiaaGreatDoor
open Ieee

abbrev FI (n : Nat) : Nat := floatOfInt .f64 (n : Int)
theorem FI_in (n : Nat) (h : n < 2 ^ 49) : FI n < 2047 * 2 ^ 52 := FI_lt n h
/-- At most n, of either sign. -/
def Mi (x n : Nat) : Prop := Mg x (n * E)
theorem Mi.mono {x a b : Nat} (h : Mi x a) (hb : a ≤ b) : Mi x b := Mg.mono h (Nat.mul_le_mul_right _ hb)
theorem Mi.pos {x n : Nat} (hn : n < 2 ^ 49) (h : x ≤ FI n) : Mi x n := by
  have := FI_in n hn
  refine (Mg.pos (show x < 2047 * 2 ^ 52 by omega)).mono ?_
  rw [← rungVal_FI n hn]; exact rungVal_mono h
theorem mi_add {x y a b : Nat} (hx : Mi x a) (hy : Mi y b) (h : a + b < 2 ^ 49) : ∃ r, double.add x y = some r ∧ Mi r (a + b) := by
  obtain ⟨r, h1, h2⟩ := mg_add (ρ := FI (a + b)) hx hy (by rw [rungVal_FI _ h, Nat.add_mul]; exact Nat.le_refl _) (FI_lt _ h)
  rw [rungVal_FI _ h] at h2
  exact ⟨r, h1, h2⟩
theorem mi_sub {x y a b : Nat} (hx : Mi x a) (hy : Mi y b) (h : a + b < 2 ^ 49) : ∃ r, double.sub x y = some r ∧ Mi r (a + b) := by
  obtain ⟨r, h1, h2⟩ := mg_sub (ρ := FI (a + b)) hx hy (by rw [rungVal_FI _ h, Nat.add_mul]; exact Nat.le_refl _) (FI_lt _ h)
  rw [rungVal_FI _ h] at h2
  exact ⟨r, h1, h2⟩
theorem mi_mul {x y a b : Nat} (hx : Mi x a) (hy : Mi y b) (h : a * b < 2 ^ 49) : ∃ r, double.mul x y = some r ∧ Mi r (a * b) := by
  obtain ⟨r, h1, h2⟩ := mg_mul (ρ := FI (a * b)) hx hy (by rw [rungVal_FI _ h]; show a * E * (b * E) ≤ a * b * E * E; rw [show a * E * (b * E) = a * b * E * E by ac_rfl]; exact Nat.le_refl _) (FI_lt _ h)
  rw [rungVal_FI _ h] at h2
  exact ⟨r, h1, h2⟩
theorem mi_div {x y a b q : Nat} (hx : Mi x a) (hy : FI b ≤ y) (hyI : y < 2047 * 2 ^ 52) (hb : 0 < b) (hb2 : b < 2 ^ 49) (hq : a ≤ q * b) (hq2 : q < 2 ^ 49) : ∃ r, double.div x y = some r ∧ Mi r q := by
  obtain ⟨n, l, h1, h2, _⟩ := read_pos hyI
  obtain ⟨r, h3, h4⟩ := mg_div (ρ := FI q) (b := b * E) hx ⟨false, n, l, h1, by rw [h2, ← rungVal_FI b hb2]; exact rungVal_mono hy⟩ (Nat.mul_pos hb E_pos)
    (by rw [rungVal_FI _ hq2]; show a * E * E ≤ q * E * (b * E); rw [show q * E * (b * E) = q * b * (E * E) by ac_rfl, Nat.mul_assoc]; exact Nat.mul_le_mul_right _ hq) (FI_lt _ hq2)
  rw [rungVal_FI _ hq2] at h4
  exact ⟨r, h3, h4⟩
/-- Whether a word is a number of at most n: for the kernel. -/
def miB (c n : Nat) : Bool := match double.read c with
  | .number _ m p => decide (0 ≤ p + 1074) && decide (m * 2 ^ (p + 1074).toNat ≤ n * E)
  | _ => false
theorem mi_const {c n : Nat} (h : miB c n = true) : Mi c n := by
  unfold miB at h
  split at h
  · rename_i s m p hr
    rw [Bool.and_eq_true, decide_eq_true_eq, decide_eq_true_eq] at h
    refine ⟨s, m, (p + 1074).toNat, by rw [hr]; congr 1; omega, h.2⟩
  · cases h
/-- A square is not negative. -/
theorem mi_sq {x a : Nat} (hx : Mi x a) (h : a * a < 2 ^ 49) : ∃ r, double.mul x x = some r ∧ r ≤ FI (a * a) := by
  obtain ⟨s, m, k, h1, h2⟩ := hx
  unfold Format.mul
  rw [h1]
  simp only [Datum.product, Option.map_some]
  by_cases h0 : m * m = 0
  · refine ⟨0, ?_, Nat.zero_le _⟩
    show some (double.nearest _ _ _) = _
    rw [h0, nearest_zero]; cases s <;> rfl
  · have hs : (s ^^ s) = false := by cases s <;> rfl
    have hup : rungOf false (m * m) ((k : Int) - 1074 + ((k : Int) - 1074)) ≤ FI (a * a) := by
      refine rung_up _ _ _ h0 (k + k) E74 _ (by have := E74_eq; omega) ?_
      rw [rungVal_FI _ h, show m * m * 2 ^ (k + k) = m * 2 ^ k * (m * 2 ^ k) by rw [Nat.pow_add]; ac_rfl]
      refine Nat.le_trans (Nat.mul_le_mul h2 h2) ?_
      show a * E * (a * E) ≤ a * a * E * E
      rw [show a * E * (a * E) = a * a * E * E by ac_rfl]; exact Nat.le_refl _
    have hI := FI_in _ h
    refine ⟨_, ?_, hup⟩
    show some (double.nearest _ _ _) = _
    rw [nearest_eq _ _ _ h0, inf_double]
    first | rw [hs] | skip
    have hs2 : (s != s) = false := by cases s <;> rfl
    first | rw [hs2] | skip
    rw [show min (rungOf false (m * m) ((k : Int) - 1074 + ((k : Int) - 1074))) (2047 * 2 ^ 52) = rungOf false (m * m) ((k : Int) - 1074 + ((k : Int) - 1074)) by omega, word_pos]
theorem nn_add {x y a b : Nat} (hx : x ≤ FI a) (hy : y ≤ FI b) (h : a + b < 2 ^ 49) : ∃ r, double.add x y = some r ∧ r ≤ FI (a + b) ∧ x ≤ r ∧ y ≤ r := by
  have ia := FI_in a (by omega)
  have ib := FI_in b (by omega)
  have iab := FI_in _ h
  obtain ⟨R, h1, h2, h3⟩ := add_pos (show x < 2047 * 2 ^ 52 by omega) (show y < 2047 * 2 ^ 52 by omega)
  have va := rungVal_mono hx
  have vb := rungVal_mono hy
  rw [rungVal_FI a (by omega)] at va
  rw [rungVal_FI b (by omega)] at vb
  have hR : R ≤ FI (a + b) := h2 _ (by rw [rungVal_FI _ h, Nat.add_mul]; omega)
  rw [show min R (2047 * 2 ^ 52) = R by omega] at h1
  exact ⟨R, h1, hR, h3 x (by omega), h3 y (by omega)⟩
theorem nn_mul {x y a b : Nat} (hx : x ≤ FI a) (hy : y ≤ FI b) (ha : a < 2 ^ 49) (hb : b < 2 ^ 49) (h : a * b < 2 ^ 49) : ∃ r, double.mul x y = some r ∧ r ≤ FI (a * b) := by
  have ia := FI_in a ha
  have ib := FI_in b hb
  have iab := FI_in _ h
  obtain ⟨R, h1, h2, _⟩ := mul_spec (show x < 2047 * 2 ^ 52 by omega) (show y < 2047 * 2 ^ 52 by omega)
  have va := rungVal_mono hx
  have vb := rungVal_mono hy
  rw [rungVal_FI a ha] at va
  rw [rungVal_FI b hb] at vb
  have hR : R ≤ FI (a * b) := h2 _ (by
    rw [rungVal_FI _ h]
    refine Nat.le_trans (Nat.mul_le_mul va vb) ?_
    show a * E * (b * E) ≤ a * b * E * E
    rw [show a * E * (b * E) = a * b * E * E by ac_rfl]; exact Nat.le_refl _)
  rw [show min R (2047 * 2 ^ 52) = R by omega] at h1
  exact ⟨R, h1, hR⟩
end Go.Proofs.YthcgojhfbcgaiaaGreatDoor

namespace Go.Proofs.YthcgojhfbcgaiaaGreatDoor
open Go.RowKit Go.Proofs Ieee

theorem rq {x y r : Nat} (h : Ieee.double.div x y = some r) (w : World) : (binOp .quo 29 (.float .f64 x) (.float .f64 y)).run Tryz.prog w = .ok (.float .f64 r) w := run_float_arith _ _ _ _ _ _ _ h
theorem ra {x y r : Nat} (h : Ieee.double.add x y = some r) (w : World) : (binOp .add 29 (.float .f64 x) (.float .f64 y)).run Tryz.prog w = .ok (.float .f64 r) w := run_float_arith _ _ _ _ _ _ _ h
theorem rs {x y r : Nat} (h : Ieee.double.sub x y = some r) (w : World) : (binOp .sub 29 (.float .f64 x) (.float .f64 y)).run Tryz.prog w = .ok (.float .f64 r) w := run_float_arith _ _ _ _ _ _ _ h
theorem rm {x y r : Nat} (h : Ieee.double.mul x y = some r) (w : World) : (binOp .mul 29 (.float .f64 x) (.float .f64 y)).run Tryz.prog w = .ok (.float .f64 r) w := run_float_arith _ _ _ _ _ _ _ h

/-- What xatan computes. -/
def xatanM (x : Nat) : Option Nat := do
  let z ← Ieee.double.mul x x
  let a1 ← Ieee.double.mul 13829429103926125972 z
  let a2 ← Ieee.double.add a1 13848613196940411002
  let a3 ← Ieee.double.mul a2 z
  let a4 ← Ieee.double.add a3 13858350711815275123
  let a5 ← Ieee.double.mul a4 z
  let a6 ← Ieee.double.add a5 13861719834326579749
  let a7 ← Ieee.double.mul a6 z
  let a8 ← Ieee.double.add a7 13857635882265799822
  let a9 ← Ieee.double.mul z a8
  let b1 ← Ieee.double.add z 4627690253511319612
  let b2 ← Ieee.double.mul b1 z
  let b3 ← Ieee.double.add b2 4640010388282866213
  let b4 ← Ieee.double.mul b3 z
  let b5 ← Ieee.double.add b4 4646322940342877755
  let b6 ← Ieee.double.mul b5 z
  let b7 ← Ieee.double.add b6 4647246694406179306
  let b8 ← Ieee.double.mul b7 z
  let b9 ← Ieee.double.add b8 4641049159275471596
  let d1 ← Ieee.double.div a9 b9
  let d2 ← Ieee.double.mul x d1
  Ieee.double.add d2 x
/-- What satan computes, of a float that is not negative. -/
def satanM (x : Nat) : Option Nat :=
  if x ≤ 4604119971053405471 then xatanM x
  else if 4612618744449965542 < x then do
    let a ← Ieee.double.div 4607182418800017408 x
    let r ← xatanM a
    let s ← Ieee.double.sub 4609753056924675352 r
    Ieee.double.add s 4364452196894661639
  else do
    let a ← Ieee.double.sub x 4607182418800017408
    let b ← Ieee.double.add x 4607182418800017408
    let c ← Ieee.double.div a b
    let r ← xatanM c
    let s ← Ieee.double.add 4605249457297304856 r
    Ieee.double.add s 4359948597267291143
theorem c_le {c n : Nat} (h : decide (c ≤ FI n) = true) : c ≤ FI n := of_decide_eq_true h
set_option maxRecDepth 100000 in
set_option maxHeartbeats 1000000 in
theorem xatan_calls {x : Nat} (hx : Mi x 4) : ∃ r, xatanM x = some r ∧ Mi r 100000 ∧ ∀ w, Calls Tryz.prog 129 #[.float .f64 x] w fun e w' => e = .returned (.float .f64 r) ∧ w = w' := by
  obtain ⟨z, z1, z2⟩ := mi_sq hx (by omega)
  have Z : Mi z 16 := Mi.pos (by omega) z2
  obtain ⟨a1, p1, m1⟩ := mi_mul (mi_const (c := 13829429103926125972) (n := 1) (by decide +kernel)) Z (by omega)
  obtain ⟨a2, p2, m2⟩ := mi_add m1 (mi_const (c := 13848613196940411002) (n := 17) (by decide +kernel)) (by omega)
  obtain ⟨a3, p3, m3⟩ := mi_mul m2 Z (by omega)
  obtain ⟨a4, p4, m4⟩ := mi_add m3 (mi_const (c := 13858350711815275123) (n := 76) (by decide +kernel)) (by omega)
  obtain ⟨a5, p5, m5⟩ := mi_mul m4 Z (by omega)
  obtain ⟨a6, p6, m6⟩ := mi_add m5 (mi_const (c := 13861719834326579749) (n := 128) (by decide +kernel)) (by omega)
  obtain ⟨a7, p7, m7⟩ := mi_mul m6 Z (by omega)
  obtain ⟨a8, p8, m8⟩ := mi_add m7 (mi_const (c := 13857635882265799822) (n := 66) (by decide +kernel)) (by omega)
  obtain ⟨a9, p9, m9⟩ := mi_mul Z m8 (by omega)
  obtain ⟨b1, q1, n1, _⟩ := nn_add z2 (c_le (c := 4627690253511319612) (n := 32) (by decide +kernel)) (by omega)
  obtain ⟨b2, q2, n2⟩ := nn_mul n1 z2 (by omega) (by omega) (by omega)
  obtain ⟨b3, q3, n3, _⟩ := nn_add n2 (c_le (c := 4640010388282866213) (n := 200) (by decide +kernel)) (by omega)
  obtain ⟨b4, q4, n4⟩ := nn_mul n3 z2 (by omega) (by omega) (by omega)
  obtain ⟨b5, q5, n5, _⟩ := nn_add n4 (c_le (c := 4646322940342877755) (n := 500) (by decide +kernel)) (by omega)
  obtain ⟨b6, q6, n6⟩ := nn_mul n5 z2 (by omega) (by omega) (by omega)
  obtain ⟨b7, q7, n7, _⟩ := nn_add n6 (c_le (c := 4647246694406179306) (n := 600) (by decide +kernel)) (by omega)
  obtain ⟨b8, q8, n8⟩ := nn_mul n7 z2 (by omega) (by omega) (by omega)
  obtain ⟨b9, q9, n9, l9, l9'⟩ := nn_add n8 (c_le (c := 4641049159275471596) (n := 200) (by decide +kernel)) (by omega)
  have hlow : FI 128 ≤ b9 := Nat.le_trans (of_decide_eq_true (by decide +kernel : decide (FI 128 ≤ 4641049159275471596) = true)) l9'
  obtain ⟨d1, r1, s1⟩ := mi_div (q := 20000) m9 hlow (by have h9 := FI_in _ (show ((((4 * 4 + 32) * (4 * 4) + 200) * (4 * 4) + 500) * (4 * 4) + 600) * (4 * 4) + 200 < 2 ^ 49 by omega); omega) (by omega) (by omega) (by omega) (by omega)
  obtain ⟨d2, r2, s2⟩ := mi_mul hx s1 (by omega)
  obtain ⟨d3, r3, s3⟩ := mi_add s2 hx (by omega)
  have hm : xatanM x = some d3 := by
    simp only [xatanM, z1, p1, p2, p3, p4, p5, p6, p7, p8, p9, q1, q2, q3, q4, q5, q6, q7, q8, q9, r1, r2, r3, bind, Option.bind]
  refine ⟨d3, hm, s3.mono (by omega), fun w => ?_⟩
  clear hm
  have f0 := rm z1
  have f1 := rm p1
  have f2 := ra p2
  have f3 := rm p3
  have f4 := ra p4
  have f5 := rm p5
  have f6 := ra p6
  have f7 := rm p7
  have f8 := ra p8
  have f9 := rm p9
  have g1 := ra q1
  have g2 := rm q2
  have g3 := ra q3
  have g4 := rm q4
  have g5 := ra q5
  have g6 := rm q6
  have g7 := ra q7
  have g8 := rm q8
  have g9 := ra q9
  have k1 := rq r1
  have k2 := rm r2
  have k3 := ra r3
  clear z1 p1 p2 p3 p4 p5 p6 p7 p8 p9 q1 q2 q3 q4 q5 q6 q7 q8 q9 r1 r2 r3 m1 m2 m3 m4 m5 m6 m7 m8 m9 n1 n2 n3 n4 n5 n6 n7 n8 n9 s1 s2 s3 l9 l9' hlow Z z2 hx
  go_enter Tryz.func129, Tryz.ntmps129
  go_wp2_with fail
  go_ret
  exact ⟨rfl, rfl⟩
theorem ord_le {x y : Nat} (hx : x < 2047 * 2 ^ 52) (hy : y < 2047 * 2 ^ 52) : FloatKind.f64.format.order x y = some (compare x y) := order_pos hx hy

set_option maxRecDepth 100000 in
set_option maxHeartbeats 1000000 in
theorem satan_calls {x n : Nat} (hx : x ≤ FI n) (hn : n < 2 ^ 49) : ∃ r, satanM x = some r ∧ Mi r 100010 ∧ ∀ w, Calls Tryz.prog 120 #[.float .f64 x] w fun e w' => e = .returned (.float .f64 r) ∧ w = w' := by
  have hI := FI_in n hn
  have o1 := ord_le (x := x) (y := 4604119971053405471) (by omega) (by omega)
  have o2 := ord_le (x := x) (y := 4612618744449965542) (by omega) (by omega)
  rcases Nat.lt_or_ge 4604119971053405471 x with h1 | h1
  · rcases Nat.lt_or_ge 4612618744449965542 x with h2 | h2
    · rw [Nat.compare_eq_gt.2 h1] at o1
      rw [Nat.compare_eq_gt.2 h2] at o2
      obtain ⟨a, p1, m1⟩ := mi_div (x := 4607182418800017408) (y := x) (a := 1) (b := 2) (q := 1) (mi_const (by decide +kernel)) (Nat.le_trans (of_decide_eq_true (by decide +kernel : decide (FI 2 ≤ 4612618744449965542) = true)) (Nat.le_of_lt h2)) (by omega) (by omega) (by omega) (by omega) (by omega)
      obtain ⟨r, hxm, hr, hc'⟩ := xatan_calls (m1.mono (show 1 ≤ 4 by omega))
      obtain ⟨s, e1, e2⟩ := mi_sub (mi_const (c := 4609753056924675352) (n := 2) (by decide +kernel)) hr (by omega)
      obtain ⟨t, e3, e4⟩ := mi_add e2 (mi_const (c := 4364452196894661639) (n := 1) (by decide +kernel)) (by omega)
      have hm : satanM x = some t := by
        simp only [satanM, if_neg (Nat.not_le.2 h1), if_pos h2, p1, hxm, e1, e3, bind, Option.bind]
      refine ⟨t, hm, e4.mono (by omega), fun w => ?_⟩
      have hc := Lib.hid (hc' w)
      have f1 := rq p1
      have f2 := rs e1
      have f3 := ra e3
      clear hm hc' hr e1 e2 e3 e4 hxm
      clear h1 h2 hx hI m1 p1
      go_enter Tryz.func120, Tryz.ntmps120
      go_wp2_with (go_at_call 129; refine hc.out.mono ?_; rintro e w1 ⟨rfl, rfl⟩)
      go_ret
      exact ⟨rfl, rfl⟩
    · rcases Nat.lt_or_eq_of_le h2 with h3 | h3
      all_goals
        first | rw [Nat.compare_eq_gt.2 h1] at o1 | skip
        first | rw [Nat.compare_eq_lt.2 h3] at o2 | rw [Nat.compare_eq_eq.2 h3] at o2
        have hx3 : x ≤ FI 3 := Nat.le_trans h2 (of_decide_eq_true (by decide +kernel : decide (4612618744449965542 ≤ FI 3) = true))
        have h1c : (4607182418800017408 : Nat) ≤ FI 1 := of_decide_eq_true (by decide +kernel)
        obtain ⟨a, p1, m1⟩ := mi_sub (Mi.pos (by omega) hx3) (mi_const (c := 4607182418800017408) (n := 1) (by decide +kernel)) (by omega)
        obtain ⟨b, p2, m2, l2, l2'⟩ := nn_add hx3 h1c (by omega)
        have hbI : b < 2047 * 2 ^ 52 := by have := FI_in (3 + 1) (by omega); omega
        obtain ⟨c, p3, m3⟩ := mi_div (a := 4) (b := 1) (q := 4) m1 (Nat.le_trans (of_decide_eq_true (by decide +kernel : decide (FI 1 ≤ 4607182418800017408) = true)) l2') hbI (by omega) (by omega) (by omega) (by omega)
        obtain ⟨r, hxm, hr, hc'⟩ := xatan_calls m3
        obtain ⟨s, e1, e2⟩ := mi_add (mi_const (c := 4605249457297304856) (n := 1) (by decide +kernel)) hr (by omega)
        obtain ⟨t, e3, e4⟩ := mi_add e2 (mi_const (c := 4359948597267291143) (n := 1) (by decide +kernel)) (by omega)
        have hm : satanM x = some t := by
          simp only [satanM, if_neg (Nat.not_le.2 h1), if_neg (Nat.not_lt.2 h2), p1, p2, p3, hxm, e1, e3, bind, Option.bind]
        refine ⟨t, hm, e4.mono (by omega), fun w => ?_⟩
        have hc := Lib.hid (hc' w)
        have f1 := rs p1
        have f2 := ra p2
        have f3 := rq p3
        have f4 := ra e1
        have f5 := ra e3
        clear hm hc' hr e1 e2 e3 e4 hxm
        clear h1 h2 h3 hx hI hn m1 p1 p2 m2 l2 l2' hbI p3 m3 hx3 h1c
        go_enter Tryz.func120, Tryz.ntmps120
        go_wp2_with (go_at_call 129; refine hc.out.mono ?_; rintro e w1 ⟨rfl, rfl⟩)
        go_ret
        exact ⟨rfl, rfl⟩
  · have hx1 : x ≤ FI 1 := Nat.le_trans h1 (of_decide_eq_true (by decide +kernel : decide (4604119971053405471 ≤ FI 1) = true))
    obtain ⟨r, hxm, hr, hc'⟩ := xatan_calls ((Mi.pos (by omega) hx1).mono (show 1 ≤ 4 by omega))
    have hm : satanM x = some r := by simp only [satanM, if_pos h1, hxm]
    refine ⟨r, hm, hr.mono (by omega), fun w => ?_⟩
    have hc := Lib.hid (hc' w)
    clear hm hc' hr hxm
    rcases Nat.lt_or_eq_of_le h1 with h3 | h3
    all_goals
      first | rw [Nat.compare_eq_lt.2 h3] at o1 | rw [Nat.compare_eq_eq.2 h3] at o1
      clear h1 h3 hx hI hn hx1 o2
      go_enter Tryz.func120, Tryz.ntmps120
      go_wp2_with (go_at_call 129; refine hc.out.mono ?_; rintro e w1 ⟨rfl, rfl⟩)
      go_ret
      exact ⟨rfl, rfl⟩
end Go.Proofs.YthcgojhfbcgaiaaGreatDoor
