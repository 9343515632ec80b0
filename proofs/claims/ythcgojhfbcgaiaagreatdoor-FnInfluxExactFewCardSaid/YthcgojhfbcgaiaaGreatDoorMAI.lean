/- math.sin of a float that is not negative. Conditions: the argument's bound; the tables. -/
import Derived.Test.YthcgojhfbcgaiaaGreatDoorMAH

namespace Go.Proofs.YthcgojhfbcgaiaaGreatDoor
open Go.RowKit Go.Proofs Ieee

theorem toU_pos (x : Nat) (h : x < 2047 * 2 ^ 52) (hb : wholeOf x < 2 ^ 62) : floatToIntVal .f64 x .u64 = some (wholeOf x : Int) := by
  have hi := integral_floor .zero (Or.inr rfl) h
  unfold floatToIntVal
  have e : (FloatKind.f64.decode x).toInt .zero = some (wholeOf x : Int) := by
    show (match (double.read x).integral .zero with | .number s m _ => some (signed s m 0) | _ => none) = _
    rw [hi]
    show some (signed false (wholeOf x) 0) = _
    rw [signed_eq]; simp
  rw [e]
  have h1 : IntKind.u64.min = 0 := rfl
  have h2 : IntKind.u64.max = 18446744073709551615 := rfl
  simp only [h1, h2]
  rw [if_pos ⟨by omega, by omega⟩]
theorem and_one (j : Nat) (hj : j < 2 ^ 62) : bits .and .u64 (j : Int) 1 = ((j % 2 : Nat) : Int) := by
  have := u64_and_nat j 1 (by omega) (by omega)
  rw [show ((1 : Nat) : Int) = 1 from rfl] at this
  rw [this, show (1 : Nat) = 2 ^ 1 - 1 from rfl, Nat.and_two_pow_sub_one_eq_mod]
theorem and_seven (j : Nat) (hj : j < 2 ^ 62) : bits .and .u64 (j : Int) 7 = ((j % 8 : Nat) : Int) := by
  have := u64_and_nat j 7 (by omega) (by omega)
  rw [show ((7 : Nat) : Int) = 7 from rfl] at this
  rw [this, show (7 : Nat) = 2 ^ 3 - 1 from rfl, Nat.and_two_pow_sub_one_eq_mod]

theorem add_one (j : Nat) (hj : j < 2 ^ 40) : Ieee.double.add (floatOfInt .f64 (j : Int)) 4607182418800017408 = some (floatOfInt .f64 ((j : Int) + 1)) := by
  rw [one_FI]
  show Ieee.double.add (floatOfInt .f64 (j : Int)) (floatOfInt .f64 ((1 : Nat) : Int)) = some (floatOfInt .f64 (((j + 1 : Nat)) : Int))
  rw [FI_FX j (by omega), FI_FX 1 (by omega), FI_FX (j + 1) (by omega), FX_add (by omega) (by omega)]
  first | rfl | (congr 2; omega)
theorem Mi_FI (j : Nat) (h : j < 2 ^ 49) : Mi (FI j) j := Mi.pos h (Nat.le_refl _)
def cosK : Nat → Nat
  | 0 => 13666448263388469915
  | 1 => 4477121864728985349
  | 2 => 13732177093698800582
  | 3 => 4537941361668146421
  | 4 => 13787419979223748497
  | 5 => 4586165620538955083
  | _ => 0
def sinK : Nat → Nat
  | 0 => 4460209587652500685
  | 1 => 13716528389658582877
  | 2 => 4523617212962785441
  | 3 => 13774824197404483331
  | 4 => 4575957461383575504
  | 5 => 13818544856648471880
  | _ => 0
/-- A polynomial of six numbers, as sin computes it. -/
def poly6M (K : Nat → Nat) (q : Nat) : Option Nat := do
  let a ← Ieee.double.mul (K 0) q
  let b ← Ieee.double.add a (K 1)
  let c ← Ieee.double.mul b q
  let d ← Ieee.double.add c (K 2)
  let e ← Ieee.double.mul d q
  let f ← Ieee.double.add e (K 3)
  let g ← Ieee.double.mul f q
  let h ← Ieee.double.add g (K 4)
  let i ← Ieee.double.mul h q
  Ieee.double.add i (K 5)
/-- What sin computes of a float that is above nought; and whether its sign is turned. -/
def sinC (x : Nat) : Option (Nat × Nat) := do
  let y0 ← Ieee.double.mul x 4608412980311869571
  let i := wholeOf y0 + wholeOf y0 % 2
  let a ← Ieee.double.mul (floatOfInt .f64 (i : Int)) 4605249456957292544
  let b ← Ieee.double.sub x a
  let c ← Ieee.double.mul (floatOfInt .f64 (i : Int)) 4495793288086814720
  let d ← Ieee.double.sub b c
  let e ← Ieee.double.mul (floatOfInt .f64 (i : Int)) 4388835458085048688
  let z ← Ieee.double.sub d e
  let q ← Ieee.double.mul z z
  if i % 8 = 0 ∨ i % 8 = 4 then do
    let p ← poly6M sinK q
    let u ← Ieee.double.mul z q
    let v ← Ieee.double.mul u p
    let r ← Ieee.double.add z v
    some (r, i % 8)
  else do
    let p ← poly6M cosK q
    let u ← Ieee.double.mul 4602678819172646912 q
    let u2 ← Ieee.double.sub 4607182418800017408 u
    let v ← Ieee.double.mul q q
    let v' ← Ieee.double.mul v p
    let r ← Ieee.double.add u2 v'
    some (r, i % 8)
def turnIf (b : Bool) (r : Nat) : Nat := if b then r ^^^ 2 ^ 63 else r
def sinPM (x : Nat) : Option Nat := (sinC x).map fun p => turnIf (decide (4 ≤ p.2)) p.1
def sinNM (x : Nat) : Option Nat := (sinC x).map fun p => turnIf (decide (p.2 < 4)) p.1
/-- What is left of the argument when its eighths of a turn are taken off. -/
theorem sin_rest {x j : Nat} (hx : Mp x 20) (hj : j ≤ 2 ^ 22) : ∃ a b c d e z q, Ieee.double.mul (floatOfInt .f64 (j : Int)) 4605249456957292544 = some a ∧ Ieee.double.sub x a = some b ∧ Ieee.double.mul (floatOfInt .f64 (j : Int)) 4495793288086814720 = some c ∧ Ieee.double.sub b c = some d ∧
    Ieee.double.mul (floatOfInt .f64 (j : Int)) 4388835458085048688 = some e ∧ Ieee.double.sub d e = some z ∧ Ieee.double.mul z z = some q ∧ Mp z 25 ∧ Mp q 50 := by
  have y := (Mi_FI j (by omega)).toMp (e := 22) hj
  obtain ⟨a, a1, a2⟩ := mp_mul y ((mi_const (c := 4605249456957292544) (n := 1) (by decide +kernel)).toMp (e := 0) (by omega)) (by omega)
  obtain ⟨b, b1, b2⟩ := mp_sub 22 hx a2 (by omega) (by omega) (by omega)
  obtain ⟨c, c1, c2⟩ := mp_mul y ((mi_const (c := 4495793288086814720) (n := 1) (by decide +kernel)).toMp (e := 0) (by omega)) (by omega)
  obtain ⟨d, d1, d2⟩ := mp_sub 23 b2 c2 (by omega) (by omega) (by omega)
  obtain ⟨e, e1, e2⟩ := mp_mul y ((mi_const (c := 4388835458085048688) (n := 1) (by decide +kernel)).toMp (e := 0) (by omega)) (by omega)
  obtain ⟨z, z1, z2⟩ := mp_sub 24 d2 e2 (by omega) (by omega) (by omega)
  obtain ⟨q, q1, q2⟩ := mp_mul z2 z2 (by omega)
  exact ⟨a, b, c, d, e, z, q, a1, b1, c1, d1, e1, z1, q1, z2, q2⟩

/-- A polynomial of a table's six numbers. -/
theorem poly6 {q k0 k1 k2 k3 k4 k5 : Nat} (hq : Mp q 50) (h0 : Mp k0 0) (h1 : Mp k1 0) (h2 : Mp k2 0) (h3 : Mp k3 0) (h4 : Mp k4 0) (h5 : Mp k5 0) : ∃ a b c d e f g h i r, Ieee.double.mul k0 q = some a ∧ Ieee.double.add a k1 = some b ∧ Ieee.double.mul b q = some c ∧ Ieee.double.add c k2 = some d ∧
    Ieee.double.mul d q = some e ∧ Ieee.double.add e k3 = some f ∧ Ieee.double.mul f q = some g ∧ Ieee.double.add g k4 = some h ∧ Ieee.double.mul h q = some i ∧ Ieee.double.add i k5 = some r ∧ Mp r 255 := by
  obtain ⟨a, a1, a2⟩ := mp_mul h0 hq (by omega)
  obtain ⟨b, b1, b2⟩ := mp_add 50 a2 h1 (by omega) (by omega) (by omega)
  obtain ⟨c, c1, c2⟩ := mp_mul b2 hq (by omega)
  obtain ⟨d, d1, d2⟩ := mp_add 101 c2 h2 (by omega) (by omega) (by omega)
  obtain ⟨e, e1, e2⟩ := mp_mul d2 hq (by omega)
  obtain ⟨f, f1, f2⟩ := mp_add 152 e2 h3 (by omega) (by omega) (by omega)
  obtain ⟨g, g1, g2⟩ := mp_mul f2 hq (by omega)
  obtain ⟨h, i1, i2⟩ := mp_add 203 g2 h4 (by omega) (by omega) (by omega)
  obtain ⟨i, j1, j2⟩ := mp_mul i2 hq (by omega)
  obtain ⟨r, r1, r2⟩ := mp_add 254 j2 h5 (by omega) (by omega) (by omega)
  exact ⟨a, b, c, d, e, f, g, h, i, r, a1, b1, c1, d1, e1, f1, g1, i1, j1, r1, r2⟩

/-- A table of six numbers, none greater than one. -/
def Tab6 (w : World) (b : Nat) (K : Nat → Nat) : Prop := ∃ k0 k1 k2 k3 k4 k5 : Nat, (k0 = K 0 ∧ k1 = K 1 ∧ k2 = K 2 ∧ k3 = K 3 ∧ k4 = K 4 ∧ k5 = K 5) ∧ w.cell? ⟨b, 0, none⟩ = some (.float .f64 k0) ∧ w.cell? ⟨b, 1, none⟩ = some (.float .f64 k1) ∧ w.cell? ⟨b, 2, none⟩ = some (.float .f64 k2) ∧ w.cell? ⟨b, 3, none⟩ = some (.float .f64 k3) ∧ w.cell? ⟨b, 4, none⟩ = some (.float .f64 k4) ∧ w.cell? ⟨b, 5, none⟩ = some (.float .f64 k5) ∧
  Mp k0 0 ∧ Mp k1 0 ∧ Mp k2 0 ∧ Mp k3 0 ∧ Mp k4 0 ∧ Mp k5 0
/-- The end, by the table of the sine. -/
theorem sin_end {z q p : Nat} (hz : Mp z 25) (hq : Mp q 50) (hp : Mp p 255) : ∃ a b r, Ieee.double.mul z q = some a ∧ Ieee.double.mul a p = some b ∧ Ieee.double.add z b = some r ∧ Mp r 900 := by
  obtain ⟨a, a1, a2⟩ := mp_mul hz hq (by omega)
  obtain ⟨b, b1, b2⟩ := mp_mul a2 hp (by omega)
  obtain ⟨r, r1, r2⟩ := mp_add 330 hz b2 (by omega) (by omega) (by omega)
  exact ⟨a, b, r, a1, b1, r1, r2.mono (by omega)⟩
/-- The end, by the table of the cosine. -/
theorem cos_end {q p : Nat} (hq : Mp q 50) (hp : Mp p 255) : ∃ a b c d r, Ieee.double.mul 4602678819172646912 q = some a ∧ Ieee.double.sub 4607182418800017408 a = some b ∧ Ieee.double.mul q q = some c ∧ Ieee.double.mul c p = some d ∧ Ieee.double.add b d = some r ∧ Mp r 900 := by
  obtain ⟨a, a1, a2⟩ := mp_mul ((mi_const (c := 4602678819172646912) (n := 1) (by decide +kernel)).toMp (e := 0) (by omega)) hq (by omega)
  obtain ⟨b, b1, b2⟩ := mp_sub 50 ((mi_const (c := 4607182418800017408) (n := 1) (by decide +kernel)).toMp (e := 0) (by omega)) a2 (by omega) (by omega) (by omega)
  obtain ⟨c, c1, c2⟩ := mp_mul hq hq (by omega)
  obtain ⟨d, d1, d2⟩ := mp_mul c2 hp (by omega)
  obtain ⟨r, r1, r2⟩ := mp_add 355 b2 d2 (by omega) (by omega) (by omega)
  exact ⟨a, b, c, d, r, a1, b1, c1, d1, r1, r2.mono (by omega)⟩

set_option maxRecDepth 100000 in
set_option maxHeartbeats 1000000 in
theorem sinP_calls {x : Nat} (hx : x ≤ FI (2 ^ 20)) (h0 : 0 < x) {w : World} (t1 : Tab6 w 1 cosK) (t2 : Tab6 w 2 sinK) : ∃ r, sinPM x = some r ∧ Mp r 900 ∧ ∀ d, Calls Tryz.prog 103 #[.float .f64 x] (w.drewN d) fun e w' => e = .returned (.float .f64 r) ∧ w.drewN d = w' := by
  have hI := FI_in (2 ^ 20) (by omega)
  have hxI : x < 2047 * 2 ^ 52 := by omega
  have o1 := ord_le (x := x) (y := 0) hxI (by omega)
  rw [Nat.compare_eq_gt.2 h0] at o1
  have o2 := ord_le (x := x) (y := 4737786807993761792) hxI (by omega)
  have hlt : x < 4737786807993761792 := Nat.lt_of_le_of_lt hx (of_decide_eq_true (by decide +kernel : decide (FI (2 ^ 20) < 4737786807993761792) = true))
  rw [Nat.compare_eq_lt.2 hlt] at o2
  have c1 := fun w => Lib.hid (IsNaN_calls (Mg.pos hxI) w)
  have c2 := fun w => Lib.hid (IsInf_calls (x := x) (r := x) (by omega) (by omega) hxI w)
  obtain ⟨y0, p1, l1⟩ := nn_mul hx (c_le (c := 4608412980311869571) (n := 2) (by decide +kernel)) (by omega) (by omega) (by omega)
  have f1 := rm p1
  have hy0 : y0 < 2047 * 2 ^ 52 := by have := FI_in (2 ^ 20 * 2) (by omega); omega
  have hjle : wholeOf y0 ≤ 2 ^ 21 := by
    have v := rungVal_mono l1
    rw [rungVal_FI _ (by omega)] at v
    unfold wholeOf
    have := Nat.div_le_div_right (c := 2 ^ E74) v
    rw [show 2 ^ 20 * 2 * E = 2 ^ 21 * 2 ^ E74 from rfl, Nat.mul_div_cancel _ (Nat.two_pow_pos _)] at this
    exact this
  have hj := toU_pos y0 hy0 (by omega)
  obtain ⟨j, hjj⟩ : ∃ j, j = wholeOf y0 := ⟨_, rfl⟩
  rw [← hjj] at hj hjle
  have a1 := and_one j (by omega)
  have hcv := fun w => run_convert_float_int (P := Tryz.prog) w 29 26 .f64 .u64 y0 (j : Int) (by kernel_rfl) Tryz.underlying26 hj
  have hji : (j : Int) ≤ 2097152 := by omega
  have hxM : Mp x 20 := (Mi.pos (by omega) hx).toMp (Nat.le_refl _)
  have hjl40 : j < 2 ^ 40 := by omega
  have ao := add_one j hjl40
  rcases Nat.mod_two_eq_zero_or_one j with h2 | h2
  · rw [h2] at a1
    obtain ⟨a, b, c, d, e, z, q, s1, s2, s3, s4, s5, s6, s7, m1, m2⟩ := sin_rest (j := j) hxM (by omega)
    have a7 := and_seven (j) (by omega)
    obtain ⟨o, ho⟩ : ∃ o, o = (j) % 8 := ⟨_, rfl⟩
    rw [← ho] at a7
    have g1 := rm s1
    have g2 := rs s2
    have g3 := rm s3
    have g4 := rs s4
    have g5 := rm s5
    have g6 := rs s6
    have g7 := rm s7
    have hcases : o = 0 ∨ o = 2 ∨ o = 4 ∨ o = 6 := by omega
    have hao := ra ao
    have hs2 : o = 0 ∨ o = 4 → Hid (∃ r, sinPM x = some r ∧ Mp r 900 ∧ ∀ d, Calls Tryz.prog 103 #[.float .f64 x] (w.drewN d) fun e w' => e = .returned (.float .f64 r) ∧ w.drewN d = w') := fun ho4 => Lib.hid (by
      obtain ⟨k0, k1, k2, k3, k4, k5, ⟨i0, i1, i2, i3, i4, i5⟩, x0, x1, x2, x3, x4, x5, n0, n1, n2, n3, n4, n5⟩ := t2
      obtain ⟨b0, b1, b2, b3, b4, b5, b6, b7, b8, p, v0, v1, v2, v3, v4, v5, v6, v7, v8, v9, mp⟩ := poly6 m2 n0 n1 n2 n3 n4 n5
      obtain ⟨u, v, r, w1, w2, w3, mr⟩ := sin_end m1 m2 mp
      have q0 := rm v0
      have q1 := ra v1
      have q2 := rm v2
      have q3 := ra v3
      have q4 := rm v4
      have q5 := ra v5
      have q6 := rm v6
      have q7 := ra v7
      have q8 := rm v8
      have q9 := ra v9
      have l1 := rm w1
      have l2 := rm w2
      have l3 := ra w3
      have hm : sinC x = some (r, o) := by
        simp only [sinC, p1, bind, Option.bind, ← hjj, ← ho, h2, Nat.add_zero, s1, s2, s3, s4, s5, s6, s7, if_pos ho4, poly6M, ← i0, ← i1, ← i2, ← i3, ← i4, ← i5, v0, v1, v2, v3, v4, v5, v6, v7, v8, v9, w1, w2, w3]
      have hM : sinPM x = some (turnIf (decide (4 ≤ o)) r) := by simp only [sinPM, hm, Option.map_some]
      unfold turnIf at hM
      have un := un_neg r
      have mr' := Lib.hid (mp_neg mr)
      generalize r ^^^ 2 ^ 63 = r' at un mr' hM
      have HM := Lib.hid hM
      have mr2 := Lib.hid mr
      clear s1 s2 s3 s4 s5 s6 s7 hy0 hjj hx h0 hI hxI hlt hxM hjl40 ao ho h2 hcases hm hM i0 i1 i2 i3 i4 i5 v0 v1 v2 v3 v4 v5 v6 v7 v8 v9 w1 w2 w3 n0 n1 n2 n3 n4 n5 m1 m2 mp mr t1 p1
      rcases ho4 with rfl | rfl
      · refine ⟨r, HM.out, mr2.out, fun d => ?_⟩
        go_enter Tryz.func103, Tryz.ntmps103
        go_wp2_with (first
          | (go_at_call 32; refine (c1 _).out.mono ?_; rintro e w2 ⟨rfl, rfl⟩)
          | (go_at_call 106; refine (c2 _).out.mono ?_; rintro e w2 ⟨rfl, rfl⟩))
        go_ret
        exact ⟨rfl, rfl⟩
      · refine ⟨r', HM.out, mr'.out, fun d => ?_⟩
        go_enter Tryz.func103, Tryz.ntmps103
        go_wp2_with (first
          | (go_at_call 32; refine (c1 _).out.mono ?_; rintro e w2 ⟨rfl, rfl⟩)
          | (go_at_call 106; refine (c2 _).out.mono ?_; rintro e w2 ⟨rfl, rfl⟩))
        go_ret
        exact ⟨rfl, rfl⟩)
    have hc2 : o = 2 ∨ o = 6 → Hid (∃ r, sinPM x = some r ∧ Mp r 900 ∧ ∀ d, Calls Tryz.prog 103 #[.float .f64 x] (w.drewN d) fun e w' => e = .returned (.float .f64 r) ∧ w.drewN d = w') := fun ho4 => Lib.hid (by
      obtain ⟨k0, k1, k2, k3, k4, k5, ⟨i0, i1, i2, i3, i4, i5⟩, x0, x1, x2, x3, x4, x5, n0, n1, n2, n3, n4, n5⟩ := t1
      obtain ⟨b0, b1, b2, b3, b4, b5, b6, b7, b8, p, v0, v1, v2, v3, v4, v5, v6, v7, v8, v9, mp⟩ := poly6 m2 n0 n1 n2 n3 n4 n5
      obtain ⟨u, u2, v, v', r, w1, w2, w3, w4, w5, mr⟩ := cos_end m2 mp
      have q0 := rm v0
      have q1 := ra v1
      have q2 := rm v2
      have q3 := ra v3
      have q4 := rm v4
      have q5 := ra v5
      have q6 := rm v6
      have q7 := ra v7
      have q8 := rm v8
      have q9 := ra v9
      have l1 := rm w1
      have l2 := rs w2
      have l3 := rm w3
      have l4 := rm w4
      have l5 := ra w5
      have hm : sinC x = some (r, o) := by
        simp only [sinC, p1, bind, Option.bind, ← hjj, ← ho, h2, Nat.add_zero, s1, s2, s3, s4, s5, s6, s7, if_neg (show ¬ (o = 0 ∨ o = 4) by omega), poly6M, ← i0, ← i1, ← i2, ← i3, ← i4, ← i5, v0, v1, v2, v3, v4, v5, v6, v7, v8, v9, w1, w2, w3, w4, w5]
      have hM : sinPM x = some (turnIf (decide (4 ≤ o)) r) := by simp only [sinPM, hm, Option.map_some]
      unfold turnIf at hM
      have un := un_neg r
      have mr' := Lib.hid (mp_neg mr)
      generalize r ^^^ 2 ^ 63 = r' at un mr' hM
      have HM := Lib.hid hM
      have mr2 := Lib.hid mr
      clear s1 s2 s3 s4 s5 s6 s7 hy0 hjj hx h0 hI hxI hlt hxM hjl40 ao ho h2 hcases hm hM i0 i1 i2 i3 i4 i5 v0 v1 v2 v3 v4 v5 v6 v7 v8 v9 w1 w2 w3 w4 w5 n0 n1 n2 n3 n4 n5 m1 m2 mp mr t2 p1
      rcases ho4 with rfl | rfl
      · refine ⟨r, HM.out, mr2.out, fun d => ?_⟩
        go_enter Tryz.func103, Tryz.ntmps103
        go_wp2_with (first
          | (go_at_call 32; refine (c1 _).out.mono ?_; rintro e w2 ⟨rfl, rfl⟩)
          | (go_at_call 106; refine (c2 _).out.mono ?_; rintro e w2 ⟨rfl, rfl⟩))
        go_ret
        exact ⟨rfl, rfl⟩
      · refine ⟨r', HM.out, mr'.out, fun d => ?_⟩
        go_enter Tryz.func103, Tryz.ntmps103
        go_wp2_with (first
          | (go_at_call 32; refine (c1 _).out.mono ?_; rintro e w2 ⟨rfl, rfl⟩)
          | (go_at_call 106; refine (c2 _).out.mono ?_; rintro e w2 ⟨rfl, rfl⟩))
        go_ret
        exact ⟨rfl, rfl⟩)
    rcases hcases with h | h | h | h
    · exact (hs2 (.inl h)).out
    · exact (hc2 (.inl h)).out
    · exact (hs2 (.inr h)).out
    · exact (hc2 (.inr h)).out
  · rw [h2] at a1
    obtain ⟨a, b, c, d, e, z, q, s1, s2, s3, s4, s5, s6, s7, m1, m2⟩ := sin_rest (j := j + 1) hxM (by omega)
    have a7 := and_seven (j + 1) (by omega)
    obtain ⟨o, ho⟩ : ∃ o, o = (j + 1) % 8 := ⟨_, rfl⟩
    rw [← ho] at a7
    have S1 := s1
    have S3 := s3
    have S5 := s5
    rw [show ((j + 1 : Nat) : Int) = (j : Int) + 1 from rfl] at s1 s3 s5 a7
    have g1 := rm s1
    have g2 := rs s2
    have g3 := rm s3
    have g4 := rs s4
    have g5 := rm s5
    have g6 := rs s6
    have g7 := rm s7
    have hcases : o = 0 ∨ o = 2 ∨ o = 4 ∨ o = 6 := by omega
    have hao := ra ao
    have hs2 : o = 0 ∨ o = 4 → Hid (∃ r, sinPM x = some r ∧ Mp r 900 ∧ ∀ d, Calls Tryz.prog 103 #[.float .f64 x] (w.drewN d) fun e w' => e = .returned (.float .f64 r) ∧ w.drewN d = w') := fun ho4 => Lib.hid (by
      obtain ⟨k0, k1, k2, k3, k4, k5, ⟨i0, i1, i2, i3, i4, i5⟩, x0, x1, x2, x3, x4, x5, n0, n1, n2, n3, n4, n5⟩ := t2
      obtain ⟨b0, b1, b2, b3, b4, b5, b6, b7, b8, p, v0, v1, v2, v3, v4, v5, v6, v7, v8, v9, mp⟩ := poly6 m2 n0 n1 n2 n3 n4 n5
      obtain ⟨u, v, r, w1, w2, w3, mr⟩ := sin_end m1 m2 mp
      have q0 := rm v0
      have q1 := ra v1
      have q2 := rm v2
      have q3 := ra v3
      have q4 := rm v4
      have q5 := ra v5
      have q6 := rm v6
      have q7 := ra v7
      have q8 := rm v8
      have q9 := ra v9
      have l1 := rm w1
      have l2 := rm w2
      have l3 := ra w3
      have hm : sinC x = some (r, o) := by
        simp only [sinC, p1, bind, Option.bind, ← hjj, ← ho, h2, S1, s2, S3, s4, S5, s6, s7, if_pos ho4, poly6M, ← i0, ← i1, ← i2, ← i3, ← i4, ← i5, v0, v1, v2, v3, v4, v5, v6, v7, v8, v9, w1, w2, w3]
      have hM : sinPM x = some (turnIf (decide (4 ≤ o)) r) := by simp only [sinPM, hm, Option.map_some]
      unfold turnIf at hM
      have un := un_neg r
      have mr' := Lib.hid (mp_neg mr)
      generalize r ^^^ 2 ^ 63 = r' at un mr' hM
      have HM := Lib.hid hM
      have mr2 := Lib.hid mr
      clear S1 S3 S5 s1 s2 s3 s4 s5 s6 s7 hy0 hjj hx h0 hI hxI hlt hxM hjl40 ao ho h2 hcases hm hM i0 i1 i2 i3 i4 i5 v0 v1 v2 v3 v4 v5 v6 v7 v8 v9 w1 w2 w3 n0 n1 n2 n3 n4 n5 m1 m2 mp mr t1 p1
      rcases ho4 with rfl | rfl
      · refine ⟨r, HM.out, mr2.out, fun d => ?_⟩
        go_enter Tryz.func103, Tryz.ntmps103
        go_wp2_with (first
          | (go_at_call 32; refine (c1 _).out.mono ?_; rintro e w2 ⟨rfl, rfl⟩)
          | (go_at_call 106; refine (c2 _).out.mono ?_; rintro e w2 ⟨rfl, rfl⟩))
        go_ret
        exact ⟨rfl, rfl⟩
      · refine ⟨r', HM.out, mr'.out, fun d => ?_⟩
        go_enter Tryz.func103, Tryz.ntmps103
        go_wp2_with (first
          | (go_at_call 32; refine (c1 _).out.mono ?_; rintro e w2 ⟨rfl, rfl⟩)
          | (go_at_call 106; refine (c2 _).out.mono ?_; rintro e w2 ⟨rfl, rfl⟩))
        go_ret
        exact ⟨rfl, rfl⟩)
    have hc2 : o = 2 ∨ o = 6 → Hid (∃ r, sinPM x = some r ∧ Mp r 900 ∧ ∀ d, Calls Tryz.prog 103 #[.float .f64 x] (w.drewN d) fun e w' => e = .returned (.float .f64 r) ∧ w.drewN d = w') := fun ho4 => Lib.hid (by
      obtain ⟨k0, k1, k2, k3, k4, k5, ⟨i0, i1, i2, i3, i4, i5⟩, x0, x1, x2, x3, x4, x5, n0, n1, n2, n3, n4, n5⟩ := t1
      obtain ⟨b0, b1, b2, b3, b4, b5, b6, b7, b8, p, v0, v1, v2, v3, v4, v5, v6, v7, v8, v9, mp⟩ := poly6 m2 n0 n1 n2 n3 n4 n5
      obtain ⟨u, u2, v, v', r, w1, w2, w3, w4, w5, mr⟩ := cos_end m2 mp
      have q0 := rm v0
      have q1 := ra v1
      have q2 := rm v2
      have q3 := ra v3
      have q4 := rm v4
      have q5 := ra v5
      have q6 := rm v6
      have q7 := ra v7
      have q8 := rm v8
      have q9 := ra v9
      have l1 := rm w1
      have l2 := rs w2
      have l3 := rm w3
      have l4 := rm w4
      have l5 := ra w5
      have hm : sinC x = some (r, o) := by
        simp only [sinC, p1, bind, Option.bind, ← hjj, ← ho, h2, S1, s2, S3, s4, S5, s6, s7, if_neg (show ¬ (o = 0 ∨ o = 4) by omega), poly6M, ← i0, ← i1, ← i2, ← i3, ← i4, ← i5, v0, v1, v2, v3, v4, v5, v6, v7, v8, v9, w1, w2, w3, w4, w5]
      have hM : sinPM x = some (turnIf (decide (4 ≤ o)) r) := by simp only [sinPM, hm, Option.map_some]
      unfold turnIf at hM
      have un := un_neg r
      have mr' := Lib.hid (mp_neg mr)
      generalize r ^^^ 2 ^ 63 = r' at un mr' hM
      have HM := Lib.hid hM
      have mr2 := Lib.hid mr
      clear S1 S3 S5 s1 s2 s3 s4 s5 s6 s7 hy0 hjj hx h0 hI hxI hlt hxM hjl40 ao ho h2 hcases hm hM i0 i1 i2 i3 i4 i5 v0 v1 v2 v3 v4 v5 v6 v7 v8 v9 w1 w2 w3 w4 w5 n0 n1 n2 n3 n4 n5 m1 m2 mp mr t2 p1
      rcases ho4 with rfl | rfl
      · refine ⟨r, HM.out, mr2.out, fun d => ?_⟩
        go_enter Tryz.func103, Tryz.ntmps103
        go_wp2_with (first
          | (go_at_call 32; refine (c1 _).out.mono ?_; rintro e w2 ⟨rfl, rfl⟩)
          | (go_at_call 106; refine (c2 _).out.mono ?_; rintro e w2 ⟨rfl, rfl⟩))
        go_ret
        exact ⟨rfl, rfl⟩
      · refine ⟨r', HM.out, mr'.out, fun d => ?_⟩
        go_enter Tryz.func103, Tryz.ntmps103
        go_wp2_with (first
          | (go_at_call 32; refine (c1 _).out.mono ?_; rintro e w2 ⟨rfl, rfl⟩)
          | (go_at_call 106; refine (c2 _).out.mono ?_; rintro e w2 ⟨rfl, rfl⟩))
        go_ret
        exact ⟨rfl, rfl⟩)
    rcases hcases with h | h | h | h
    · exact (hs2 (.inl h)).out
    · exact (hc2 (.inl h)).out
    · exact (hs2 (.inr h)).out
    · exact (hc2 (.inr h)).out
end Go.Proofs.YthcgojhfbcgaiaaGreatDoor
