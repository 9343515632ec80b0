/- math.sin of a float below nought; math.Sin. Conditions: the argument's bound; the tables. IsInf with a sign; math.Min: one of the two. Conditions: the floats are finite. -/
import Derived.Test.YthcgojhfbcgaiaaGreatDoorMAI

namespace Go.Proofs.YthcgojhfbcgaiaaGreatDoor
open Go.RowKit Go.Proofs Ieee

set_option maxRecDepth 100000 in
set_option maxHeartbeats 1000000 in
theorem sinN_calls {x : Nat} (hx : x ≤ FI (2 ^ 20)) (h0 : 0 < x) {w : World} (t1 : Tab6 w 1 cosK) (t2 : Tab6 w 2 sinK) : ∃ r, sinNM x = some r ∧ Mp r 900 ∧ ∀ d, Calls Tryz.prog 103 #[.float .f64 (x ^^^ 2 ^ 63)] (w.drewN d) fun e w' => e = .returned (.float .f64 r) ∧ w.drewN d = w' := by
  have hI := FI_in (2 ^ 20) (by omega)
  have hxI : x < 2047 * 2 ^ 52 := by omega
  have o1 : FloatKind.f64.format.order (x ^^^ 2 ^ 63) 0 = some .lt := order_neg hxI h0
  have o2 := ord_le (x := x) (y := 4737786807993761792) hxI (by omega)
  have hlt : x < 4737786807993761792 := Nat.lt_of_le_of_lt hx (of_decide_eq_true (by decide +kernel : decide (FI (2 ^ 20) < 4737786807993761792) = true))
  rw [Nat.compare_eq_lt.2 hlt] at o2
  have hxM : Mp x 20 := (Mi.pos (by omega) hx).toMp (Nat.le_refl _)
  have c1 := fun w => Lib.hid (IsNaN_calls (mp_neg hxM) w)
  have hX := neg_word hxI
  have c2 := fun w => Lib.hid (IsInf_calls (x := x ^^^ 2 ^ 63) (r := x) (by rw [hX]; omega) (by rw [hX]; omega) hxI w)
  have ub := un_neg_back x
  clear hX
  generalize x ^^^ 2 ^ 63 = X at o1 c1 c2 ub ⊢
  obtain ⟨y0, p1, l1⟩ := nn_mul hx (c_le (c := 4608412980311869571) (n := 2) (by decide +kernel)) (by omega) (by omega) (by omega)
  have f1 := rm p1
  have hy0 : y0 < 2047 * 2 ^ 52 := by have := FI_in (2 ^ 20 * 2) (by omega); omega
  have hjle : wholeOf y0 ≤ 2 ^ 21 := by
    have v := rungVal_mono l1
    rw [rungVal_FI _ (by omega)] at v
    unfold wholeOf
    have := Nat.div_le_div_right (c := 2 ^ E74) v
    rw [show 2 ^ 20 * 2 * E = 2 ^ 21 * 2 ^ E74 from rfl, Nat.mul_div_cancel _ (Nat.two_pow_pos _)] at this
    exact this
  have hj := toU_pos y0 hy0 (by omega)
  obtain ⟨j, hjj⟩ : ∃ j, j = wholeOf y0 := ⟨_, rfl⟩
  rw [← hjj] at hj hjle
  have a1 := and_one j (by omega)
  have hcv := fun w => run_convert_float_int (P := Tryz.prog) w 29 26 .f64 .u64 y0 (j : Int) (by kernel_rfl) Tryz.underlying26 hj
  have hji : (j : Int) ≤ 2097152 := by omega
  have hjl40 : j < 2 ^ 40 := by omega
  have ao := add_one j hjl40
  rcases Nat.mod_two_eq_zero_or_one j with h2 | h2
  · rw [h2] at a1
    obtain ⟨a, b, c, d, e, z, q, s1, s2, s3, s4, s5, s6, s7, m1, m2⟩ := sin_rest (j := j) hxM (by omega)
    have a7 := and_seven (j) (by omega)
    obtain ⟨o, ho⟩ : ∃ o, o = (j) % 8 := ⟨_, rfl⟩
    rw [← ho] at a7
    have g1 := rm s1
    have g2 := rs s2
    have g3 := rm s3
    have g4 := rs s4
    have g5 := rm s5
    have g6 := rs s6
    have g7 := rm s7
    have hcases : o = 0 ∨ o = 2 ∨ o = 4 ∨ o = 6 := by omega
    have hao := ra ao
    have hs2 : o = 0 ∨ o = 4 → Hid (∃ r, sinNM x = some r ∧ Mp r 900 ∧ ∀ d, Calls Tryz.prog 103 #[.float .f64 X] (w.drewN d) fun e w' => e = .returned (.float .f64 r) ∧ w.drewN d = w') := fun ho4 => Lib.hid (by
      obtain ⟨k0, k1, k2, k3, k4, k5, ⟨i0, i1, i2, i3, i4, i5⟩, x0, x1, x2, x3, x4, x5, n0, n1, n2, n3, n4, n5⟩ := t2
      obtain ⟨b0, b1, b2, b3, b4, b5, b6, b7, b8, p, v0, v1, v2, v3, v4, v5, v6, v7, v8, v9, mp⟩ := poly6 m2 n0 n1 n2 n3 n4 n5
      obtain ⟨u, v, r, w1, w2, w3, mr⟩ := sin_end m1 m2 mp
      have q0 := rm v0
      have q1 := ra v1
      have q2 := rm v2
      have q3 := ra v3
      have q4 := rm v4
      have q5 := ra v5
      have q6 := rm v6
      have q7 := ra v7
      have q8 := rm v8
      have q9 := ra v9
      have l1 := rm w1
      have l2 := rm w2
      have l3 := ra w3
      have hm : sinC x = some (r, o) := by
        simp only [sinC, p1, bind, Option.bind, ← hjj, ← ho, h2, Nat.add_zero, s1, s2, s3, s4, s5, s6, s7, if_pos ho4, poly6M, ← i0, ← i1, ← i2, ← i3, ← i4, ← i5, v0, v1, v2, v3, v4, v5, v6, v7, v8, v9, w1, w2, w3]
      have hM : sinNM x = some (turnIf (decide (o < 4)) r) := by simp only [sinNM, hm, Option.map_some]
      unfold turnIf at hM
      have un := un_neg r
      have mr' := Lib.hid (mp_neg mr)
      generalize r ^^^ 2 ^ 63 = r' at un mr' hM
      have HM := Lib.hid hM
      have mr2 := Lib.hid mr
      clear s1 s2 s3 s4 s5 s6 s7 hy0 hjj hx h0 hI hxI hlt hxM hjl40 ao ho h2 hcases hm hM i0 i1 i2 i3 i4 i5 v0 v1 v2 v3 v4 v5 v6 v7 v8 v9 w1 w2 w3 n0 n1 n2 n3 n4 n5 m1 m2 mp mr t1 p1
      rcases ho4 with rfl | rfl
      · refine ⟨r', HM.out, mr'.out, fun d => ?_⟩
        go_enter Tryz.func103, Tryz.ntmps103
        go_wp2_with (first
          | (go_at_call 32; refine (c1 _).out.mono ?_; rintro e w2 ⟨rfl, rfl⟩)
          | (go_at_call 106; refine (c2 _).out.mono ?_; rintro e w2 ⟨rfl, rfl⟩))
        go_ret
        exact ⟨rfl, rfl⟩
      · refine ⟨r, HM.out, mr2.out, fun d => ?_⟩
        go_enter Tryz.func103, Tryz.ntmps103
        go_wp2_with (first
          | (go_at_call 32; refine (c1 _).out.mono ?_; rintro e w2 ⟨rfl, rfl⟩)
          | (go_at_call 106; refine (c2 _).out.mono ?_; rintro e w2 ⟨rfl, rfl⟩))
        go_ret
        exact ⟨rfl, rfl⟩)
    have hc2 : o = 2 ∨ o = 6 → Hid (∃ r, sinNM x = some r ∧ Mp r 900 ∧ ∀ d, Calls Tryz.prog 103 #[.float .f64 X] (w.drewN d) fun e w' => e = .returned (.float .f64 r) ∧ w.drewN d = w') := fun ho4 => Lib.hid (by
      obtain ⟨k0, k1, k2, k3, k4, k5, ⟨i0, i1, i2, i3, i4, i5⟩, x0, x1, x2, x3, x4, x5, n0, n1, n2, n3, n4, n5⟩ := t1
      obtain ⟨b0, b1, b2, b3, b4, b5, b6, b7, b8, p, v0, v1, v2, v3, v4, v5, v6, v7, v8, v9, mp⟩ := poly6 m2 n0 n1 n2 n3 n4 n5
      obtain ⟨u, u2, v, v', r, w1, w2, w3, w4, w5, mr⟩ := cos_end m2 mp
      have q0 := rm v0
      have q1 := ra v1
      have q2 := rm v2
      have q3 := ra v3
      have q4 := rm v4
      have q5 := ra v5
      have q6 := rm v6
      have q7 := ra v7
      have q8 := rm v8
      have q9 := ra v9
      have l1 := rm w1
      have l2 := rs w2
      have l3 := rm w3
      have l4 := rm w4
      have l5 := ra w5
      have hm : sinC x = some (r, o) := by
        simp only [sinC, p1, bind, Option.bind, ← hjj, ← ho, h2, Nat.add_zero, s1, s2, s3, s4, s5, s6, s7, if_neg (show ¬ (o = 0 ∨ o = 4) by omega), poly6M, ← i0, ← i1, ← i2, ← i3, ← i4, ← i5, v0, v1, v2, v3, v4, v5, v6, v7, v8, v9, w1, w2, w3, w4, w5]
      have hM : sinNM x = some (turnIf (decide (o < 4)) r) := by simp only [sinNM, hm, Option.map_some]
      unfold turnIf at hM
      have un := un_neg r
      have mr' := Lib.hid (mp_neg mr)
      generalize r ^^^ 2 ^ 63 = r' at un mr' hM
      have HM := Lib.hid hM
      have mr2 := Lib.hid mr
      clear s1 s2 s3 s4 s5 s6 s7 hy0 hjj hx h0 hI hxI hlt hxM hjl40 ao ho h2 hcases hm hM i0 i1 i2 i3 i4 i5 v0 v1 v2 v3 v4 v5 v6 v7 v8 v9 w1 w2 w3 w4 w5 n0 n1 n2 n3 n4 n5 m1 m2 mp mr t2 p1
      rcases ho4 with rfl | rfl
      · refine ⟨r', HM.out, mr'.out, fun d => ?_⟩
        go_enter Tryz.func103, Tryz.ntmps103
        go_wp2_with (first
          | (go_at_call 32; refine (c1 _).out.mono ?_; rintro e w2 ⟨rfl, rfl⟩)
          | (go_at_call 106; refine (c2 _).out.mono ?_; rintro e w2 ⟨rfl, rfl⟩))
        go_ret
        exact ⟨rfl, rfl⟩
      · refine ⟨r, HM.out, mr2.out, fun d => ?_⟩
        go_enter Tryz.func103, Tryz.ntmps103
        go_wp2_with (first
          | (go_at_call 32; refine (c1 _).out.mono ?_; rintro e w2 ⟨rfl, rfl⟩)
          | (go_at_call 106; refine (c2 _).out.mono ?_; rintro e w2 ⟨rfl, rfl⟩))
        go_ret
        exact ⟨rfl, rfl⟩)
    rcases hcases with h | h | h | h
    · exact (hs2 (.inl h)).out
    · exact (hc2 (.inl h)).out
    · exact (hs2 (.inr h)).out
    · exact (hc2 (.inr h)).out
  · rw [h2] at a1
    obtain ⟨a, b, c, d, e, z, q, s1, s2, s3, s4, s5, s6, s7, m1, m2⟩ := sin_rest (j := j + 1) hxM (by omega)
    have a7 := and_seven (j + 1) (by omega)
    obtain ⟨o, ho⟩ : ∃ o, o = (j + 1) % 8 := ⟨_, rfl⟩
    rw [← ho] at a7
    have S1 := s1
    have S3 := s3
    have S5 := s5
    rw [show ((j + 1 : Nat) : Int) = (j : Int) + 1 from rfl] at s1 s3 s5 a7
    have g1 := rm s1
    have g2 := rs s2
    have g3 := rm s3
    have g4 := rs s4
    have g5 := rm s5
    have g6 := rs s6
    have g7 := rm s7
    have hcases : o = 0 ∨ o = 2 ∨ o = 4 ∨ o = 6 := by omega
    have hao := ra ao
    have hs2 : o = 0 ∨ o = 4 → Hid (∃ r, sinNM x = some r ∧ Mp r 900 ∧ ∀ d, Calls Tryz.prog 103 #[.float .f64 X] (w.drewN d) fun e w' => e = .returned (.float .f64 r) ∧ w.drewN d = w') := fun ho4 => Lib.hid (by
      obtain ⟨k0, k1, k2, k3, k4, k5, ⟨i0, i1, i2, i3, i4, i5⟩, x0, x1, x2, x3, x4, x5, n0, n1, n2, n3, n4, n5⟩ := t2
      obtain ⟨b0, b1, b2, b3, b4, b5, b6, b7, b8, p, v0, v1, v2, v3, v4, v5, v6, v7, v8, v9, mp⟩ := poly6 m2 n0 n1 n2 n3 n4 n5
      obtain ⟨u, v, r, w1, w2, w3, mr⟩ := sin_end m1 m2 mp
      have q0 := rm v0
      have q1 := ra v1
      have q2 := rm v2
      have q3 := ra v3
      have q4 := rm v4
      have q5 := ra v5
      have q6 := rm v6
      have q7 := ra v7
      have q8 := rm v8
      have q9 := ra v9
      have l1 := rm w1
      have l2 := rm w2
      have l3 := ra w3
      have hm : sinC x = some (r, o) := by
        simp only [sinC, p1, bind, Option.bind, ← hjj, ← ho, h2, S1, s2, S3, s4, S5, s6, s7, if_pos ho4, poly6M, ← i0, ← i1, ← i2, ← i3, ← i4, ← i5, v0, v1, v2, v3, v4, v5, v6, v7, v8, v9, w1, w2, w3]
      have hM : sinNM x = some (turnIf (decide (o < 4)) r) := by simp only [sinNM, hm, Option.map_some]
      unfold turnIf at hM
      have un := un_neg r
      have mr' := Lib.hid (mp_neg mr)
      generalize r ^^^ 2 ^ 63 = r' at un mr' hM
      have HM := Lib.hid hM
      have mr2 := Lib.hid mr
      clear S1 S3 S5 s1 s2 s3 s4 s5 s6 s7 hy0 hjj hx h0 hI hxI hlt hxM hjl40 ao ho h2 hcases hm hM i0 i1 i2 i3 i4 i5 v0 v1 v2 v3 v4 v5 v6 v7 v8 v9 w1 w2 w3 n0 n1 n2 n3 n4 n5 m1 m2 mp mr t1 p1
      rcases ho4 with rfl | rfl
      · refine ⟨r', HM.out, mr'.out, fun d => ?_⟩
        go_enter Tryz.func103, Tryz.ntmps103
        go_wp2_with (first
          | (go_at_call 32; refine (c1 _).out.mono ?_; rintro e w2 ⟨rfl, rfl⟩)
          | (go_at_call 106; refine (c2 _).out.mono ?_; rintro e w2 ⟨rfl, rfl⟩))
        go_ret
        exact ⟨rfl, rfl⟩
      · refine ⟨r, HM.out, mr2.out, fun d => ?_⟩
        go_enter Tryz.func103, Tryz.ntmps103
        go_wp2_with (first
          | (go_at_call 32; refine (c1 _).out.mono ?_; rintro e w2 ⟨rfl, rfl⟩)
          | (go_at_call 106; refine (c2 _).out.mono ?_; rintro e w2 ⟨rfl, rfl⟩))
        go_ret
        exact ⟨rfl, rfl⟩)
    have hc2 : o = 2 ∨ o = 6 → Hid (∃ r, sinNM x = some r ∧ Mp r 900 ∧ ∀ d, Calls Tryz.prog 103 #[.float .f64 X] (w.drewN d) fun e w' => e = .returned (.float .f64 r) ∧ w.drewN d = w') := fun ho4 => Lib.hid (by
      obtain ⟨k0, k1, k2, k3, k4, k5, ⟨i0, i1, i2, i3, i4, i5⟩, x0, x1, x2, x3, x4, x5, n0, n1, n2, n3, n4, n5⟩ := t1
      obtain ⟨b0, b1, b2, b3, b4, b5, b6, b7, b8, p, v0, v1, v2, v3, v4, v5, v6, v7, v8, v9, mp⟩ := poly6 m2 n0 n1 n2 n3 n4 n5
      obtain ⟨u, u2, v, v', r, w1, w2, w3, w4, w5, mr⟩ := cos_end m2 mp
      have q0 := rm v0
      have q1 := ra v1
      have q2 := rm v2
      have q3 := ra v3
      have q4 := rm v4
      have q5 := ra v5
      have q6 := rm v6
      have q7 := ra v7
      have q8 := rm v8
      have q9 := ra v9
      have l1 := rm w1
      have l2 := rs w2
      have l3 := rm w3
      have l4 := rm w4
      have l5 := ra w5
      have hm : sinC x = some (r, o) := by
        simp only [sinC, p1, bind, Option.bind, ← hjj, ← ho, h2, S1, s2, S3, s4, S5, s6, s7, if_neg (show ¬ (o = 0 ∨ o = 4) by omega), poly6M, ← i0, ← i1, ← i2, ← i3, ← i4, ← i5, v0, v1, v2, v3, v4, v5, v6, v7, v8, v9, w1, w2, w3, w4, w5]
      have hM : sinNM x = some (turnIf (decide (o < 4)) r) := by simp only [sinNM, hm, Option.map_some]
      unfold turnIf at hM
      have un := un_neg r
      have mr' := Lib.hid (mp_neg mr)
      generalize r ^^^ 2 ^ 63 = r' at un mr' hM
      have HM := Lib.hid hM
      have mr2 := Lib.hid mr
      clear S1 S3 S5 s1 s2 s3 s4 s5 s6 s7 hy0 hjj hx h0 hI hxI hlt hxM hjl40 ao ho h2 hcases hm hM i0 i1 i2 i3 i4 i5 v0 v1 v2 v3 v4 v5 v6 v7 v8 v9 w1 w2 w3 w4 w5 n0 n1 n2 n3 n4 n5 m1 m2 mp mr t2 p1
      rcases ho4 with rfl | rfl
      · refine ⟨r', HM.out, mr'.out, fun d => ?_⟩
        go_enter Tryz.func103, Tryz.ntmps103
        go_wp2_with (first
          | (go_at_call 32; refine (c1 _).out.mono ?_; rintro e w2 ⟨rfl, rfl⟩)
          | (go_at_call 106; refine (c2 _).out.mono ?_; rintro e w2 ⟨rfl, rfl⟩))
        go_ret
        exact ⟨rfl, rfl⟩
      · refine ⟨r, HM.out, mr2.out, fun d => ?_⟩
        go_enter Tryz.func103, Tryz.ntmps103
        go_wp2_with (first
          | (go_at_call 32; refine (c1 _).out.mono ?_; rintro e w2 ⟨rfl, rfl⟩)
          | (go_at_call 106; refine (c2 _).out.mono ?_; rintro e w2 ⟨rfl, rfl⟩))
        go_ret
        exact ⟨rfl, rfl⟩)
    rcases hcases with h | h | h | h
    · exact (hs2 (.inl h)).out
    · exact (hc2 (.inl h)).out
    · exact (hs2 (.inr h)).out
    · exact (hc2 (.inr h)).out
/-- What Sin computes. -/
def sinW (x : Nat) : Option Nat := if x = 0 ∨ x = 2 ^ 63 then some x else if x < 2 ^ 63 then sinPM x else sinNM (x ^^^ 2 ^ 63)
set_option maxRecDepth 100000 in
theorem sin0_calls (w : World) : ∀ d, Calls Tryz.prog 103 #[.float .f64 0] (w.drewN d) fun e w' => e = .returned (.float .f64 0) ∧ w.drewN d = w' := by
  have o1 := ord_le (x := 0) (y := 0) (by omega) (by omega)
  have e1 : compare (0 : Nat) 0 = .eq := rfl
  rw [e1] at o1
  clear e1
  intro d
  go_enter Tryz.func103, Tryz.ntmps103
  go_wp2_with fail
  go_ret
  exact ⟨rfl, rfl⟩

set_option maxRecDepth 100000 in
/-- math.Sin, of either sign. -/
theorem Sin_calls {x : Nat} {w : World} (hx : x ≤ FI (2 ^ 20) ∨ ∃ y, x = y ^^^ 2 ^ 63 ∧ 0 < y ∧ y ≤ FI (2 ^ 20)) (t1 : Tab6 w 1 cosK) (t2 : Tab6 w 2 sinK) : ∃ r, sinW x = some r ∧ Mp r 900 ∧ ∀ d, Calls Tryz.prog 80 #[.float .f64 x] (w.drewN d) fun e w' => e = .returned (.float .f64 r) ∧ w.drewN d = w' := by
  have hI := FI_in (2 ^ 20) (by omega)
  obtain ⟨r, hm, hr, hc⟩ : ∃ r, sinW x = some r ∧ Mp r 900 ∧ ∀ d, Calls Tryz.prog 103 #[.float .f64 x] (w.drewN d) fun e w' => e = .returned (.float .f64 r) ∧ w.drewN d = w' := by
    rcases hx with hx | ⟨y, rfl, h0, hy⟩
    · rcases Nat.eq_zero_or_pos x with h | h
      · subst h; exact ⟨0, rfl, (Mi.pos (n := 1) (by omega) (Nat.zero_le _)).toMp (by omega), sin0_calls w⟩
      · obtain ⟨r, h1, h2, h3⟩ := sinP_calls hx h t1 t2
        exact ⟨r, by rw [sinW, if_neg (by omega), if_pos (by omega)]; exact h1, h2, h3⟩
    · obtain ⟨r, h1, h2, h3⟩ := sinN_calls hy h0 t1 t2
      have e : y ^^^ 2 ^ 63 = y + 2 ^ 63 := xor_top (by omega)
      exact ⟨r, by rw [sinW, if_neg (by rw [e]; omega), if_neg (by rw [e]; omega), Nat.xor_assoc, Nat.xor_self, Nat.xor_zero]; exact h1, h2, h3⟩
  refine ⟨r, hm, hr, fun d => ?_⟩
  have Hc := Lib.hid (hc d)
  clear hx t1 t2 hr hc hm hI
  go_enter Tryz.func80, Tryz.ntmps80
  go_wp2_with (go_at_call 103; refine Hc.out.mono ?_; rintro e w2 ⟨rfl, rfl⟩)
  go_ret
  exact ⟨rfl, rfl⟩
end Go.Proofs.YthcgojhfbcgaiaaGreatDoor

namespace Go.Proofs.YthcgojhfbcgaiaaGreatDoor
open Go.RowKit Go.Proofs Ieee

theorem order_some {x y A B : Nat} (hx : Mg x A) (hy : Mg y B) : ∃ o, FloatKind.f64.format.order x y = some o := by
  obtain ⟨s, m, k, h1, _⟩ := hx
  obtain ⟨t, n, l, h2, _⟩ := hy
  show ∃ o, double.order x y = _
  unfold Format.order
  rw [h1, h2]
  exact ⟨_, rfl⟩
theorem order_le {x y A : Nat} (hx : Mg x A) (hy : y < 2047 * 2 ^ 52) (h : A ≤ rungVal y) : ∃ o, FloatKind.f64.format.order x y = some o ∧ o ≠ .gt := by
  obtain ⟨s, m, k, h1, h1'⟩ := hx
  obtain ⟨n, l, h2, h2', _⟩ := read_pos hy
  show ∃ o, double.order x y = _ ∧ _
  unfold Format.order
  rw [h1, h2]
  refine ⟨_, rfl, ?_⟩
  obtain ⟨c, hc⟩ : ∃ c : Nat, c = min k l := ⟨_, rfl⟩
  rw [show min ((k : Int) - 1074) ((l : Int) - 1074) = (c : Int) - 1074 by omega, show ((k : Int) - 1074 - ((c : Int) - 1074)).toNat = k - c by omega,
    show ((l : Int) - 1074 - ((c : Int) - 1074)).toNat = l - c by omega, signed_false]
  have e1 : m * 2 ^ (k - c) * 2 ^ c = m * 2 ^ k := by rw [Nat.mul_assoc, ← Nat.pow_add, show k - c + c = k by omega]
  have e2 : n * 2 ^ (l - c) * 2 ^ c = n * 2 ^ l := by rw [Nat.mul_assoc, ← Nat.pow_add, show l - c + c = l by omega]
  have hle : m * 2 ^ (k - c) ≤ n * 2 ^ (l - c) := Nat.le_of_mul_le_mul_right (by rw [e1, e2, h2']; exact Nat.le_trans h1' h) (Nat.two_pow_pos c)
  have ha := signed_abs s m (k - c)
  have hs : signed s m (k - c) ≤ ((n * 2 ^ (l - c) : Nat) : Int) := by omega
  intro hg
  rw [Int.compare_eq_gt] at hg
  omega
theorem max_val : 2 ^ 900 * E ≤ rungVal 9218868437227405311 := by
  rw [← rungVal_RP 900]
  exact rungVal_mono (of_decide_eq_true (by decide +kernel : decide (RP 900 ≤ 9218868437227405311) = true))
set_option maxRecDepth 100000 in
theorem IsInfM_calls {x : Nat} (h : Mp x 900) (w : World) : Calls Tryz.prog 106 #[.float .f64 x, .int .i64 (-1)] w fun e w' => e = .returned (.bool false) ∧ w = w' := by
  obtain ⟨o, ho, hg⟩ := order_le (mp_neg h) (y := 9218868437227405311) (by omega) max_val
  have u := un_neg x
  generalize x ^^^ 2 ^ 63 = X at ho u
  clear h
  cases o with
  | gt => exact absurd rfl hg
  | lt =>
    clear hg
    go_enter Tryz.func106, Tryz.ntmps106
    go_wp2_with fail
    go_ret
    exact ⟨rfl, rfl⟩
  | eq =>
    clear hg
    go_enter Tryz.func106, Tryz.ntmps106
    go_wp2_with fail
    go_ret
    exact ⟨rfl, rfl⟩
def minR (x y : Nat) : Nat :=
  let a := FloatKind.f64.decode x
  let b := FloatKind.f64.decode y
  if a == .infinity true || b == .infinity true then FloatKind.f64.encode (.infinity true)
  else if a.isNaN || b.isNaN then 0x7FF8000000000001
  else if a.isZero && b.isZero then (if a.neg == true then x else y)
  else if a.order b == some .lt then x else y
theorem minR_one {x y A B : Nat} (hx : Mg x A) (hy : Mg y B) : minR x y = x ∨ minR x y = y := by
  obtain ⟨s, m, k, h1, _⟩ := hx
  obtain ⟨t, n, l, h2, _⟩ := hy
  have d1 : FloatKind.f64.decode x = .number s m ((k : Int) - 1074) := h1
  have d2 : FloatKind.f64.decode y = .number t n ((l : Int) - 1074) := h2
  unfold minR
  simp only [d1, d2]
  have e1 : ((Datum.number s m ((k : Int) - 1074) == Datum.infinity true) || (Datum.number t n ((l : Int) - 1074) == Datum.infinity true)) = false := by
    rw [Bool.or_eq_false_iff]; constructor <;> (rw [beq_eq_false_iff_ne]; intro h; cases h)
  have e2 : ((Datum.number s m ((k : Int) - 1074)).isNaN || (Datum.number t n ((l : Int) - 1074)).isNaN) = false := rfl
  rw [e1, e2]
  simp only [Bool.false_eq_true, if_false]
  split
  · split
    · exact .inl rfl
    · exact .inr rfl
  · split
    · exact .inl rfl
    · exact .inr rfl
theorem run_archMin (x y : Nat) (w : World) : (callFunc 82 #[.float .f64 x, .float .f64 y]).run Tryz.prog w = .ok (.value (.float .f64 (minR x y))) w := by
  rw [run_callFunc_extern (fn := Tryz.f82) (e := Extern.MathDim.pick "math.archMin" true .lt) (by kernel_rfl) (by kernel_rfl) (by kernel_rfl) (by kernel_rfl) (by kernel_rfl)]
  have e : Extern.MathDim.pick "math.archMin" true .lt #[.float .f64 x, .float .f64 y] = pure (.float .f64 (minR x y)) := rfl
  rw [e]; rfl
set_option maxHeartbeats 400000 in
set_option maxRecDepth 10000 in
/-- math.Min: one of the two. -/
theorem Min_calls (x y : Nat) (w : World) : Calls Tryz.prog 52 #[.float .f64 x, .float .f64 y] w fun e w' => e = .returned (.float .f64 (minR x y)) ∧ w = w' := by
  have hc := run_archMin x y
  generalize minR x y = r at hc ⊢
  go_enter Tryz.func52, Tryz.ntmps52
  go_wp2_with fail
  go_ret
  exact ⟨rfl, rfl⟩
end Go.Proofs.YthcgojhfbcgaiaaGreatDoor
