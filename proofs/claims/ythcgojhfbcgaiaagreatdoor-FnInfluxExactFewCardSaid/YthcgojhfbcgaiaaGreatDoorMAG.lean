/- The square root of a float between 0 and 1: between its bounds. Plain lemmas. math.Sqrt, asin of a float between 0 and 1. Conditions: the argument's bounds. The sign of a float turned. Plain lemmas. -/
import Derived.Test.YthcgojhfbcgaiaaGreatDoorMAF

namespace Go.Proofs.YthcgojhfbcgaiaaGreatDoor
open Ieee

theorem rootFrom_spec (n : Nat) : ∀ (todo root : Nat), root * root ≤ n → n < (root + 2 ^ todo) * (root + 2 ^ todo) →
    Datum.rootFrom n todo root * Datum.rootFrom n todo root ≤ n ∧ n < (Datum.rootFrom n todo root + 1) * (Datum.rootFrom n todo root + 1) := by
  intro todo
  induction todo with
  | zero => intro root h1 h2; exact ⟨h1, by simpa [Datum.rootFrom] using h2⟩
  | succ t ih =>
    intro root h1 h2
    have e : (1 : Nat) <<< t = 2 ^ t := by rw [Nat.shiftLeft_eq, Nat.one_mul]
    unfold Datum.rootFrom
    simp only [e]
    by_cases hc : (root + 2 ^ t) * (root + 2 ^ t) ≤ n
    · rw [if_pos hc]
      refine ih _ hc ?_
      have : root + 2 ^ t + 2 ^ t = root + 2 ^ (t + 1) := by rw [Nat.pow_succ]; omega
      rw [this]; exact h2
    · rw [if_neg hc]
      exact ih _ h1 (by omega)
theorem lt_of_sq {a b : Nat} (h : a * a < b * b) : a < b := by
  rcases Nat.lt_or_ge a b with h' | h'
  · exact h'
  · have := Nat.mul_le_mul h' h'; omega
theorem le_of_sq {a b : Nat} (h : a * a ≤ b * b) : a ≤ b := by
  rcases Nat.lt_or_ge b a with h' | h'
  · have := Nat.mul_lt_mul'' h' h'; omega
  · exact h'
theorem log_bound {n : Nat} : n < (0 + 2 ^ (n.log2 / 2 + 1)) * (0 + 2 ^ (n.log2 / 2 + 1)) := by
  rw [Nat.zero_add, ← Nat.pow_add]
  exact Nat.lt_of_lt_of_le Nat.lt_log2_self (Nat.pow_le_pow_right (by omega) (by omega))
theorem sqrt_spec {x : Nat} (hx : x ≤ FI 1) : ∃ r, double.sqrt x = some r ∧ r ≤ FI 2 ∧ (E ≤ 4 * rungVal x → FP 1 1 ≤ r) := by
  have hI := FI_in 1 (by omega)
  have hI2 := FI_in 2 (by omega)
  obtain ⟨m, k, h1, h2, h3⟩ := read_pos (show x < 2047 * 2 ^ 52 by omega)
  have hv := rungVal_mono hx
  rw [rungVal_FI 1 (by omega), Nat.one_mul] at hv
  unfold Format.sqrt
  rw [h1]
  simp only [Datum.root]
  by_cases h0 : m = 0
  · rw [if_pos h0]
    refine ⟨0, ?_, Nat.zero_le _, fun h => ?_⟩
    · show some (double.nearest _ _ _) = _
      rw [h0, nearest_zero]; rfl
    · rw [← h2, h0, Nat.zero_mul] at h
      have := E_pos; omega
  · rw [if_neg h0]
    simp only [Bool.false_eq_true, if_false, Option.map_some]
    have hlog : m.log2 < 53 := (Nat.log2_lt h0).2 h3
    obtain ⟨mo, hmo⟩ : ∃ mo : Nat, mo = 2 * (double.fractionBits + 2) - m.log2 := ⟨_, rfl⟩
    have hfb : double.fractionBits = 52 := rfl
    rw [hfb] at hmo ⊢
    rw [← hmo]
    obtain ⟨b, hb⟩ : ∃ b : Nat, b = (((k : Int) - 1074 - (mo : Int)) % 2).toNat := ⟨_, rfl⟩
    rw [← hb]
    have E74' := E74_eq
    have hk : k ≤ E74 := by
      rcases Nat.lt_or_ge E74 k with h | h
      · exfalso
        have a : 2 ^ k ≤ m * 2 ^ k := Nat.le_mul_of_pos_left _ (by omega)
        have c : 2 ^ (E74 + 1) ≤ 2 ^ k := Nat.pow_le_pow_right (by omega) h
        rw [Nat.pow_succ] at c
        have d : E = 2 ^ E74 := rfl
        have := E_pos
        omega
      · exact h
    obtain ⟨J, hJ⟩ : ∃ J : Nat, ((k : Int) - 1074 - ((mo + b : Nat) : Int)) = -(2 * (J : Int)) := ⟨(((mo + b : Nat) : Int) + 1074 - k).toNat / 2, by omega⟩
    have hJk : E74 + (mo + b) = k + 2 * J := by omega
    have hJ1 : 1 ≤ J := by omega
    have hJ2 : J ≤ 1073 := by omega
    obtain ⟨n, hn⟩ : ∃ n, n = m <<< (mo + b) := ⟨_, rfl⟩
    rw [← hn]
    rw [Nat.shiftLeft_eq] at hn
    obtain ⟨w1, w2⟩ := rootFrom_spec n (n.log2 / 2 + 1) 0 (by omega) log_bound
    generalize Datum.rootFrom n (n.log2 / 2 + 1) 0 = v at *
    have hnk : n * 2 ^ k = rungVal x * 2 ^ (mo + b) := by rw [hn, ← h2]; ac_rfl
    have hup : n ≤ 2 ^ J * 2 ^ J := by
      have a := Nat.mul_le_mul_right (2 ^ (mo + b)) hv
      rw [← hnk] at a
      have c : E * 2 ^ (mo + b) = 2 ^ J * 2 ^ J * 2 ^ k := by
        show 2 ^ E74 * _ = _
        rw [← Nat.pow_add, hJk, ← Nat.pow_add, ← Nat.pow_add]; congr 1; omega
      rw [c] at a
      exact Nat.le_of_mul_le_mul_right a (Nat.two_pow_pos k)
    have hv1 : v ≤ 2 ^ J := le_of_sq (Nat.le_trans w1 hup)
    have hbit : (v * v != n).toNat ≤ 1 := by cases (v * v != n) <;> simp
    have hQ : ∃ Q, Q = 2 * v + (v * v != n).toNat ∧ Q ≤ 2 * v + 1 ∧ 2 * v ≤ Q := ⟨_, rfl, by omega, by omega⟩
    obtain ⟨Q, hQe, hQ1, hQ2⟩ := hQ
    rw [← hQe]
    have hpl : ((k : Int) - 1074 - ((mo + b : Nat) : Int)) / 2 - 1 = -(J : Int) - 1 := by rw [hJ]; omega
    rw [hpl]
    have hA : (((E74 - 1 - J : Nat)) : Int) - (0 : Nat) = (-(J : Int) - 1) + 1074 := by omega
    have hpos := Nat.two_pow_pos J
    have hpw : 2 ^ J * 2 ^ (E74 - 1 - J) = 2 ^ (E74 - 1) := by rw [← Nat.pow_add]; congr 1; omega
    have hE2 : 2 * 2 ^ (E74 - 1) = E := by
      show _ = 2 ^ E74
      rw [Nat.mul_comm, ← Nat.pow_succ]; congr 1; omega
    have hup2 : Q * 2 ^ (E74 - 1 - J) ≤ 2 * E := by
      have a : Q ≤ 4 * 2 ^ J := by omega
      have c := Nat.mul_le_mul_right (2 ^ (E74 - 1 - J)) a
      rw [Nat.mul_assoc, hpw] at c
      omega
    have hlow : E ≤ 4 * rungVal x → 2 ^ (E74 - 1) ≤ Q * 2 ^ (E74 - 1 - J) := fun h => by
      have a := Nat.mul_le_mul_right (2 ^ (mo + b)) h
      have c : E * 2 ^ (mo + b) = 2 ^ J * 2 ^ J * 2 ^ k := by
        show 2 ^ E74 * _ = _
        rw [← Nat.pow_add, hJk, ← Nat.pow_add, ← Nat.pow_add]; congr 1; omega
      rw [c, Nat.mul_assoc 4, ← hnk, ← Nat.mul_assoc] at a
      have d := Nat.le_of_mul_le_mul_right a (Nat.two_pow_pos k)
      have e : 2 ^ J * 2 ^ J < (2 * (v + 1)) * (2 * (v + 1)) := by
        have : (2 * (v + 1)) * (2 * (v + 1)) = 4 * ((v + 1) * (v + 1)) := by rw [show (4 : Nat) = 2 * 2 from rfl]; ac_rfl
        omega
      have f := lt_of_sq e
      obtain ⟨J', rfl⟩ : ∃ J', J = J' + 1 := ⟨J - 1, by omega⟩
      have g : 2 ^ (J' + 1) ≤ Q := by rw [Nat.pow_succ] at f ⊢; omega
      rw [← hpw]
      exact Nat.mul_le_mul_right _ g
    have vP := (FP_spec (p := 1) (j := 1) (by omega) (by omega)).2
    rw [Nat.one_mul, Nat.pow_one] at vP
    have vP' : rungVal (FP 1 1) = 2 ^ (E74 - 1) := by
      have : (2 : Nat) ^ E74 = E := rfl
      omega
    by_cases hQ0 : Q = 0
    · refine ⟨0, ?_, Nat.zero_le _, fun h => ?_⟩
      · show some (double.nearest _ _ _) = _
        rw [hQ0, nearest_zero]; rfl
      · have := hlow h
        rw [hQ0, Nat.zero_mul] at this
        have := Nat.two_pow_pos (E74 - 1)
        omega
    · have hru := rung_up false Q (-(J : Int) - 1) hQ0 (E74 - 1 - J) 0 (FI 2) hA (by rw [rungVal_FI 2 (by omega), Nat.pow_zero, Nat.mul_one]; exact hup2)
      have hrd : (E ≤ 4 * rungVal x → FP 1 1 ≤ rungOf false Q (-(J : Int) - 1)) := fun h => rung_down false Q (-(J : Int) - 1) hQ0 (E74 - 1 - J) 0 _ hA (by rw [vP', Nat.pow_zero, Nat.mul_one]; exact hlow h)
      have hne := nearest_eq false Q (-(J : Int) - 1) hQ0
      rw [inf_double] at hne
      generalize rungOf false Q (-(J : Int) - 1) = G at hru hrd hne
      rw [word_pos, show min G (2047 * 2 ^ 52) = G by omega] at hne
      refine ⟨G, ?_, hru, hrd⟩
      show some (double.nearest false Q (-(J : Int) - 1)) = some G
      rw [hne]
end Go.Proofs.YthcgojhfbcgaiaaGreatDoor

namespace Go.Proofs.YthcgojhfbcgaiaaGreatDoor
open Go.RowKit Go.Proofs Ieee

theorem run_sqrt {x r : Nat} (h : Ieee.double.sqrt x = some r) (w : World) : (callFunc 128 #[.float .f64 x]).run Tryz.prog w = .ok (.value (.float .f64 r)) w := by
  rw [run_callFunc_extern (fn := Tryz.f128) (e := Extern.MathSqrt.sqrt) (by kernel_rfl) (by kernel_rfl) (by kernel_rfl) (by kernel_rfl) (by kernel_rfl)]
  have : Extern.MathSqrt.sqrt #[.float .f64 x] = pure (.float .f64 r) := by
    show (match Ieee.double.sqrt x with
      | some r => pure (.float .f64 r)
      | none => _ : Sem Value) = _
    rw [h]
  rw [this]; rfl
set_option maxHeartbeats 400000 in
set_option maxRecDepth 10000 in
theorem Sqrt_calls {x r : Nat} (h : Ieee.double.sqrt x = some r) (w : World) : Calls Tryz.prog 119 #[.float .f64 x] w fun e w' => e = .returned (.float .f64 r) ∧ w = w' := by
  have hc := run_sqrt h
  clear h
  go_enter Tryz.func119, Tryz.ntmps119
  go_wp2
  go_ret
  exact ⟨rfl, rfl⟩
theorem one_FI : (4607182418800017408 : Nat) = FI 1 := Nat.le_antisymm (of_decide_eq_true (by decide +kernel : decide ((4607182418800017408 : Nat) ≤ FI 1) = true)) (of_decide_eq_true (by decide +kernel : decide (FI 1 ≤ 4607182418800017408) = true))
theorem rv_half : 2 * rungVal (FP 1 1) = E := by
  have vP := (FP_spec (p := 1) (j := 1) (by omega) (by omega)).2
  rw [Nat.one_mul, Nat.pow_one] at vP
  have : (2 : Nat) ^ E74 = E := rfl
  omega
theorem half_in : FP 1 1 < 2047 * 2 ^ 52 := (FP_spec (p := 1) (j := 1) (by omega) (by omega)).1
theorem half_pos : 0 < FP 1 1 := by
  rcases Nat.eq_zero_or_pos (FP 1 1) with h | h
  · have := rv_half; rw [h, rungVal_zero] at this; have := E_pos; omega
  · exact h
theorem ac1 (a e h : Nat) : 2 * a * e * h = a * e * (2 * h) := by ac_rfl
/-- A quotient by at least a half. -/
theorem nn_div {x y a : Nat} (hx : x ≤ FI a) (ha : a < 2 ^ 40) (hy : FP 1 1 ≤ y) (hyI : y < 2047 * 2 ^ 52) : ∃ r, double.div x y = some r ∧ r ≤ FI (2 * a) := by
  have ia := FI_in a (by omega)
  have i2 := FI_in (2 * a) (by omega)
  have hp := half_pos
  obtain ⟨R, h1, h2, _⟩ := div_spec (show x < 2047 * 2 ^ 52 by omega) hyI (by omega)
  have va := rungVal_mono hx
  rw [rungVal_FI a (by omega)] at va
  have vy := rungVal_mono hy
  have vh := rv_half
  have hR : R ≤ FI (2 * a) := h2 _ (by
    rw [rungVal_FI _ (by omega)]
    show rungVal x * E ≤ 2 * a * E * rungVal y
    refine Nat.le_trans (Nat.mul_le_mul_right E va) ?_
    have e : a * E * E = 2 * a * E * rungVal (FP 1 1) := by
      rw [ac1, vh]
    rw [e]; exact Nat.mul_le_mul_left _ vy)
  rw [show min R (2047 * 2 ^ 52) = R by omega] at h1
  exact ⟨R, h1, hR⟩
/-- One less a square. -/
theorem one_less_sq {x : Nat} (hx : x ≤ FI 1) : ∃ y d t, double.mul x x = some y ∧ double.sub 4607182418800017408 y = some d ∧ double.sqrt d = some t ∧ t ≤ FI 2 ∧ (x ≤ 4604480259023595110 → FP 1 1 ≤ t) := by
  have hone : (4607182418800017408 : Nat) = FI 1 := one_FI
  obtain ⟨y, h1, h2⟩ := nn_mul hx hx (by omega) (by omega) (by omega)
  have hI := FI_in 1 (by omega)
  obtain ⟨d, h3, h4, _, h6⟩ := sub_pos hI (show y ≤ FI 1 from h2)
  obtain ⟨t, h7, h8, h9⟩ := sqrt_spec h4
  refine ⟨y, d, t, h1, by rw [hone]; exact h3, h7, h8, fun hs => h9 ?_⟩
  have hc : (4604480259023595110 : Nat) ≤ FP 6 45 := of_decide_eq_true (by decide +kernel)
  have v45 := (FP_spec (p := 6) (j := 45) (by omega) (by omega)).2
  have vx := rungVal_mono (Nat.le_trans hs hc)
  have vh := rv_half
  have hE : (2 : Nat) ^ E74 = E := rfl
  rw [hE] at v45
  have hyh : y ≤ FP 1 1 := by
    obtain ⟨R, g1, g2, _⟩ := mul_spec (show x < 2047 * 2 ^ 52 by omega) (show x < 2047 * 2 ^ 52 by omega)
    rw [h1] at g1
    injection g1 with g1
    have hR : R ≤ FP 1 1 := g2 _ (by
      rw [hE]
      have a : rungVal x * 64 ≤ 45 * E := by omega
      have b := Nat.mul_le_mul a a
      have c : rungVal x * 64 * (rungVal x * 64) = 4096 * (rungVal x * rungVal x) := by
        rw [show (4096 : Nat) = 64 * 64 from rfl]; ac_rfl
      have e : 45 * E * (45 * E) = 2025 * (E * E) := by rw [show (2025 : Nat) = 45 * 45 from rfl]; ac_rfl
      have f : 2 * (rungVal (FP 1 1) * E) = E * E := by rw [← Nat.mul_assoc, vh]
      omega)
    omega
  have vy := rungVal_mono hyh
  have hd : FP 1 1 ≤ d := h6 _ (by rw [rungVal_FI 1 (by omega)]; omega)
  have vd := rungVal_mono hd
  omega

/-- What asin computes, of a float that is not negative. -/
def asinM (x : Nat) : Option Nat :=
  if x = 0 then some 0
  else do
    let y ← Ieee.double.mul x x
    let d ← Ieee.double.sub 4607182418800017408 y
    let t ← Ieee.double.sqrt d
    if 4604480259023595110 < x then do
      let q ← Ieee.double.div t x
      let r ← satanM q
      Ieee.double.sub 4609753056924675352 r
    else do
      let q ← Ieee.double.div x t
      satanM q
set_option maxRecDepth 100000 in
set_option maxHeartbeats 1000000 in
theorem asinP_calls {x : Nat} (hx : x ≤ FI 1) : ∃ r, asinM x = some r ∧ Mi r 100020 ∧ ∀ w, Calls Tryz.prog 105 #[.float .f64 x] w fun e w' => e = .returned (.float .f64 r) ∧ w = w' := by
  have hI := FI_in 1 (by omega)
  have hone : (4607182418800017408 : Nat) = FI 1 := one_FI
  have o1 := ord_le (x := x) (y := 0) (by omega) (by omega)
  have o2 := ord_le (x := x) (y := 4607182418800017408) (by omega) (by omega)
  have o3 := ord_le (x := x) (y := 4604480259023595110) (by omega) (by omega)
  rcases Nat.eq_zero_or_pos x with h0 | h0
  · subst h0
    refine ⟨0, rfl, Mi.pos (by omega) (Nat.zero_le _), fun w => ?_⟩
    have e1 : compare (0 : Nat) 0 = .eq := rfl
    rw [e1] at o1
    clear o2 o3 hx hI hone e1
    go_enter Tryz.func105, Tryz.ntmps105
    go_wp2_with fail
    go_ret
    exact ⟨rfl, rfl⟩
  · rw [Nat.compare_eq_gt.2 h0] at o1
    obtain ⟨y, d, t, p1, p2, p3, ht, hlow⟩ := one_less_sq hx
    have htI : t < 2047 * 2 ^ 52 := by have := FI_in 2 (by omega); omega
    have hsq := fun w => Lib.hid (Sqrt_calls p3 w)
    have f1 := rm p1
    have f2 := rs p2
    have hle1 : x ≤ 4607182418800017408 := by omega
    rcases Nat.lt_or_ge 4604480259023595110 x with h7 | h7
    · rw [Nat.compare_eq_gt.2 h7] at o3
      have hhx : FP 1 1 ≤ x := Nat.le_trans (of_decide_eq_true (by decide +kernel : decide (FP 1 1 ≤ 4604480259023595110) = true)) (Nat.le_of_lt h7)
      obtain ⟨q, p4, hq⟩ := nn_div ht (by omega) hhx (by omega)
      obtain ⟨r, hxm, hr, hc'⟩ := satan_calls hq (by omega)
      obtain ⟨s, e1, e2⟩ := mi_sub (mi_const (c := 4609753056924675352) (n := 2) (by decide +kernel)) hr (by omega)
      have hm : asinM x = some s := by
        simp only [asinM, if_neg (Nat.pos_iff_ne_zero.1 h0), p1, p2, p3, p4, if_pos h7, hxm, e1, bind, Option.bind]
      refine ⟨s, hm, e2.mono (by omega), fun w => ?_⟩
      have hsat := fun w => Lib.hid (hc' w)
      have f4 := rq p4
      have f5 := rs e1
      clear hm hxm hr hc' e1 e2
      rcases Nat.lt_or_eq_of_le hle1 with h8 | h8
      all_goals
        first | rw [Nat.compare_eq_lt.2 h8] at o2 | rw [Nat.compare_eq_eq.2 h8] at o2
        clear p1 p2 p3 ht hlow htI hle1 h7 h8 hhx p4 hq hx hI h0 hone
        go_enter Tryz.func105, Tryz.ntmps105
        go_wp2_with (first
          | (go_at_call 119; refine (hsq _).out.mono ?_; rintro e w1 ⟨rfl, rfl⟩)
          | (go_at_call 120; refine (hsat _).out.mono ?_; rintro e w2 ⟨rfl, rfl⟩))
        go_ret
        exact ⟨rfl, rfl⟩
    · obtain ⟨q, p4, hq⟩ := nn_div hx (by omega) (hlow h7) htI
      obtain ⟨r, hxm, hr, hc'⟩ := satan_calls hq (by omega)
      have hm : asinM x = some r := by
        simp only [asinM, if_neg (Nat.pos_iff_ne_zero.1 h0), p1, p2, p3, p4, if_neg (Nat.not_lt.2 h7), hxm, bind, Option.bind]
      refine ⟨r, hm, hr.mono (by omega), fun w => ?_⟩
      have hsat := fun w => Lib.hid (hc' w)
      have f4 := rq p4
      clear hm hxm hr hc'
      have h8 : x < 4607182418800017408 := by omega
      rw [Nat.compare_eq_lt.2 h8] at o2
      rcases Nat.lt_or_eq_of_le h7 with h9 | h9
      all_goals
        first | rw [Nat.compare_eq_lt.2 h9] at o3 | rw [Nat.compare_eq_eq.2 h9] at o3
        clear p1 p2 p3 ht hlow htI hle1 h7 h8 h9 p4 hq hx hI h0 hone
        go_enter Tryz.func105, Tryz.ntmps105
        go_wp2_with (first
          | (go_at_call 119; refine (hsq _).out.mono ?_; rintro e w1 ⟨rfl, rfl⟩)
          | (go_at_call 120; refine (hsat _).out.mono ?_; rintro e w2 ⟨rfl, rfl⟩))
        go_ret
        exact ⟨rfl, rfl⟩
end Go.Proofs.YthcgojhfbcgaiaaGreatDoor

namespace Go.Proofs.YthcgojhfbcgaiaaGreatDoor
open Ieee

theorem xor_one_mod (q : Nat) : (q ^^^ 1) % 2 = (q + 1) % 2 := by
  have h := Nat.xor_mod_two_pow (a := q) (b := 1) (n := 1)
  rw [Nat.pow_one] at h
  rw [h]
  rcases Nat.mod_two_eq_zero_or_one q with h | h <;> rw [h] <;> simp <;> omega
theorem read_neg (b : Nat) : double.read (b ^^^ 2 ^ 63) = (double.read b).opposite := by
  have e1 : (b ^^^ 2 ^ 63) % 2 ^ 63 = b % 2 ^ 63 := by rw [Nat.xor_mod_two_pow]; simp
  have e2 : (b ^^^ 2 ^ 63) / 2 ^ 63 % 2 = (b / 2 ^ 63 + 1) % 2 := by
    rw [← Nat.shiftRight_eq_div_pow, Nat.shiftRight_xor_distrib, Nat.shiftRight_eq_div_pow, Nat.shiftRight_eq_div_pow, Nat.div_self (by omega)]
    exact xor_one_mod _
  have e3 : ((b ^^^ 2 ^ 63) / 2 ^ 63 % 2 == 1) = !(b / 2 ^ 63 % 2 == 1) := by
    rw [e2]
    rcases Nat.mod_two_eq_zero_or_one (b / 2 ^ 63) with h | h
    · rw [show (b / 2 ^ 63 + 1) % 2 = 1 by omega, h]; rfl
    · rw [show (b / 2 ^ 63 + 1) % 2 = 0 by omega, h]; rfl
  unfold Format.read
  rw [two63]
  simp only [e1, e3]
  split
  · rfl
  · split
    · rfl
    · split <;> rfl
theorem mi_neg {x n : Nat} (h : Mi x n) : Mi (x ^^^ 2 ^ 63) n := by
  obtain ⟨s, m, k, h1, h2⟩ := h
  exact ⟨!s, m, k, by rw [read_neg, h1]; rfl, h2⟩
/-- A word of the other sign stands below nought. -/
theorem neg_word {r : Nat} (h : r < 2047 * 2 ^ 52) : r ^^^ 2 ^ 63 = r + 2 ^ 63 := by
  have := Nat.two_pow_add_eq_or_of_lt (show r < 2 ^ 63 by omega) 1
  rw [Nat.mul_one] at this
  rw [Nat.add_comm, this]
  apply Nat.eq_of_testBit_eq
  intro i
  rw [Nat.testBit_xor, Nat.testBit_or, Nat.testBit_two_pow]
  by_cases hi : 63 = i
  · subst hi
    rw [Nat.testBit_lt_two_pow (show r < 2 ^ 63 by omega)]; simp
  · simp [hi]
theorem order_neg {r : Nat} (h : r < 2047 * 2 ^ 52) (h0 : 0 < r) : double.order (r ^^^ 2 ^ 63) 0 = some .lt := by
  obtain ⟨m, k, h1, h2, _⟩ := read_pos h
  have hz := Fz_pos (x := 0) (by omega)
  have hr : Fz (r ^^^ 2 ^ 63) (-(rungVal r : Int)) := by
    have hp := rungVal_pos (show r ≠ 0 by omega)
    refine ⟨m, k, ?_, by rw [h2]; omega, by assumption⟩
    rw [read_neg, h1]
    show Datum.number true m _ = _
    rw [decide_eq_true (show -(rungVal r : Int) < 0 by omega)]
  rw [order_Fz hr hz, rungVal_zero]
  have hp := rungVal_pos (show r ≠ 0 by omega)
  rw [show compare (-(rungVal r : Int)) ((0 : Nat) : Int) = .lt from by rw [Int.compare_eq_lt.2]; omega]
end Go.Proofs.YthcgojhfbcgaiaaGreatDoor
