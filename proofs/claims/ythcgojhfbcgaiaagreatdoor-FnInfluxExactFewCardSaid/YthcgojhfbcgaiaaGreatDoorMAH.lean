/- asin of a float between -1 and 0; math.Asin. Conditions: the argument's bounds. Floats of either sign bounded by powers of two. Plain lemmas. math.IsNaN, Abs, IsInf of a finite float. Conditions: the float is finite. -/
import Derived.Test.YthcgojhfbcgaiaaGreatDoorMAG
import Derived.Laws.BitsAllLaws

namespace Go.Proofs.YthcgojhfbcgaiaaGreatDoor
open Go.RowKit Go.Proofs Ieee

theorem un_neg (b : Nat) : Op.unary .neg (.float .f64 b) = pure (.float .f64 (b ^^^ 2 ^ 63)) := rfl
theorem un_neg_back (b : Nat) : Op.unary .neg (.float .f64 (b ^^^ 2 ^ 63)) = pure (.float .f64 b) := by
  rw [un_neg, Nat.xor_assoc, Nat.xor_self, Nat.xor_zero]

set_option maxRecDepth 100000 in
set_option maxHeartbeats 1000000 in
theorem asinN_calls {x : Nat} (hx : x ≤ FI 1) (h0 : 0 < x) : ∃ r, asinM x = some r ∧ Mi (r ^^^ 2 ^ 63) 100020 ∧ ∀ w, Calls Tryz.prog 105 #[.float .f64 (x ^^^ 2 ^ 63)] w fun e w' => e = .returned (.float .f64 (r ^^^ 2 ^ 63)) ∧ w = w' := by
  have hI := FI_in 1 (by omega)
  have hone : (4607182418800017408 : Nat) = FI 1 := one_FI
  have o2 := ord_le (x := x) (y := 4607182418800017408) (by omega) (by omega)
  have o3 := ord_le (x := x) (y := 4604480259023595110) (by omega) (by omega)
  have o1 : FloatKind.f64.format.order (x ^^^ 2 ^ 63) 0 = some .lt := order_neg (by omega) h0
  have u1 := un_neg_back x
  obtain ⟨y, d, t, p1, p2, p3, ht, hlow⟩ := one_less_sq hx
  have htI : t < 2047 * 2 ^ 52 := by have := FI_in 2 (by omega); omega
  have hsq := fun w => Lib.hid (Sqrt_calls p3 w)
  have f1 := rm p1
  have f2 := rs p2
  have hle1 : x ≤ 4607182418800017408 := by omega
  rcases Nat.lt_or_ge 4604480259023595110 x with h7 | h7
  · rw [Nat.compare_eq_gt.2 h7] at o3
    have hhx : FP 1 1 ≤ x := Nat.le_trans (of_decide_eq_true (by decide +kernel : decide (FP 1 1 ≤ 4604480259023595110) = true)) (Nat.le_of_lt h7)
    obtain ⟨q, p4, hq⟩ := nn_div ht (by omega) hhx (by omega)
    obtain ⟨r, hxm, hr, hc'⟩ := satan_calls hq (by omega)
    obtain ⟨s, e1, e2⟩ := mi_sub (mi_const (c := 4609753056924675352) (n := 2) (by decide +kernel)) hr (by omega)
    have hm : asinM x = some s := by
      simp only [asinM, if_neg (Nat.pos_iff_ne_zero.1 h0), p1, p2, p3, p4, if_pos h7, hxm, e1, bind, Option.bind]
    refine ⟨s, hm, (mi_neg e2).mono (by omega), fun w => ?_⟩
    have hsat := fun w => Lib.hid (hc' w)
    have f4 := rq p4
    have f5 := rs e1
    have f6 := un_neg s
    clear hm hxm hr hc' e1 e2
    generalize s ^^^ 2 ^ 63 = S at f6 ⊢
    generalize x ^^^ 2 ^ 63 = X at o1 u1 ⊢
    rcases Nat.lt_or_eq_of_le hle1 with h8 | h8
    all_goals
      first | rw [Nat.compare_eq_lt.2 h8] at o2 | rw [Nat.compare_eq_eq.2 h8] at o2
      clear p1 p2 p3 ht hlow htI hle1 h7 h8 hhx p4 hq hx hI h0 hone
      go_enter Tryz.func105, Tryz.ntmps105
      go_wp2_with (first
        | (go_at_call 119; refine (hsq _).out.mono ?_; rintro e w1 ⟨rfl, rfl⟩)
        | (go_at_call 120; refine (hsat _).out.mono ?_; rintro e w2 ⟨rfl, rfl⟩))
      go_ret
      exact ⟨rfl, rfl⟩
  · obtain ⟨q, p4, hq⟩ := nn_div hx (by omega) (hlow h7) htI
    obtain ⟨r, hxm, hr, hc'⟩ := satan_calls hq (by omega)
    have hm : asinM x = some r := by
      simp only [asinM, if_neg (Nat.pos_iff_ne_zero.1 h0), p1, p2, p3, p4, if_neg (Nat.not_lt.2 h7), hxm, bind, Option.bind]
    refine ⟨r, hm, (mi_neg hr).mono (by omega), fun w => ?_⟩
    have hsat := fun w => Lib.hid (hc' w)
    have f4 := rq p4
    have f6 := un_neg r
    clear hm hxm hr hc'
    generalize r ^^^ 2 ^ 63 = S at f6 ⊢
    generalize x ^^^ 2 ^ 63 = X at o1 u1 ⊢
    have h8 : x < 4607182418800017408 := by omega
    rw [Nat.compare_eq_lt.2 h8] at o2
    rcases Nat.lt_or_eq_of_le h7 with h9 | h9
    all_goals
      first | rw [Nat.compare_eq_lt.2 h9] at o3 | rw [Nat.compare_eq_eq.2 h9] at o3
      clear p1 p2 p3 ht hlow htI hle1 h7 h8 h9 p4 hq hx hI h0 hone
      go_enter Tryz.func105, Tryz.ntmps105
      go_wp2_with (first
        | (go_at_call 119; refine (hsq _).out.mono ?_; rintro e w1 ⟨rfl, rfl⟩)
        | (go_at_call 120; refine (hsat _).out.mono ?_; rintro e w2 ⟨rfl, rfl⟩))
      go_ret
      exact ⟨rfl, rfl⟩

theorem xor_top {y : Nat} (h : y < 2 ^ 63) : y ^^^ 2 ^ 63 = y + 2 ^ 63 := by
  have e1 : (y ^^^ 2 ^ 63) % 2 ^ 63 = y := by rw [Nat.xor_mod_two_pow]; simp; omega
  have e2 : (y ^^^ 2 ^ 63) / 2 ^ 63 = 1 := by
    rw [← Nat.shiftRight_eq_div_pow, Nat.shiftRight_xor_distrib, Nat.shiftRight_eq_div_pow, Nat.shiftRight_eq_div_pow, Nat.div_self (by omega), Nat.div_eq_of_lt h]
    rfl
  generalize y ^^^ 2 ^ 63 = z at *
  omega
theorem order_m0' : FloatKind.f64.format.order (2 ^ 63) 0 = some .eq := by decide +kernel
set_option maxRecDepth 100000 in
/-- asin of minus nought. -/
theorem asinM0_calls (w : World) : Calls Tryz.prog 105 #[.float .f64 (2 ^ 63)] w fun e w' => e = .returned (.float .f64 (2 ^ 63)) ∧ w = w' := by
  have o1 := order_m0'
  generalize (2 : Nat) ^ 63 = X at o1 ⊢
  go_enter Tryz.func105, Tryz.ntmps105
  go_wp2_with fail
  go_ret
  exact ⟨rfl, rfl⟩
/-- What Asin computes, of a float of either sign. -/
def asinW (x : Nat) : Option Nat := if x = 2 ^ 63 then some x else if x < 2 ^ 63 then asinM x else (asinM (x ^^^ 2 ^ 63)).map (· ^^^ 2 ^ 63)
theorem Asin_of {x r : Nat} (hc : ∀ w, Calls Tryz.prog 105 #[.float .f64 x] w fun e w' => e = .returned (.float .f64 r) ∧ w = w') (w : World) : Calls Tryz.prog 81 #[.float .f64 x] w fun e w' => e = .returned (.float .f64 r) ∧ w = w' := by
  have hc := Lib.hid (hc w)
  go_enter Tryz.func81, Tryz.ntmps81
  go_wp2_with (go_at_call 105; refine hc.out.mono ?_; rintro e w2 ⟨rfl, rfl⟩)
  go_ret
  exact ⟨rfl, rfl⟩
/-- math.Asin, of either sign: one answer in all worlds. -/
theorem Asin_calls {x : Nat} (hx : x ≤ FI 1 ∨ x = 2 ^ 63 ∨ ∃ y, x = y ^^^ 2 ^ 63 ∧ 0 < y ∧ y ≤ FI 1) : ∃ r, asinW x = some r ∧ Mi r 100020 ∧ ∀ w, Calls Tryz.prog 81 #[.float .f64 x] w fun e w' => e = .returned (.float .f64 r) ∧ w = w' := by
  have hI := FI_in 1 (by omega)
  rcases hx with hx | rfl | ⟨y, rfl, h0, hy⟩
  · obtain ⟨r, h1, h2, h3⟩ := asinP_calls hx
    refine ⟨r, ?_, h2, Asin_of h3⟩
    rw [asinW, if_neg (by omega), if_pos (by omega), h1]
  · refine ⟨2 ^ 63, by rw [asinW, if_pos rfl], ?_, Asin_of asinM0_calls⟩
    have := mi_neg (x := 0) (n := 100020) (Mi.pos (by omega) (Nat.zero_le _))
    rwa [Nat.zero_xor] at this
  · obtain ⟨r, h1, h2, h3⟩ := asinN_calls hy h0
    refine ⟨_, ?_, h2, Asin_of h3⟩
    have e : y ^^^ 2 ^ 63 = y + 2 ^ 63 := xor_top (by omega)
    rw [asinW, if_neg (by rw [e]; omega), if_neg (by rw [e]; omega), Nat.xor_assoc, Nat.xor_self, Nat.xor_zero, h1]
    rfl
end Go.Proofs.YthcgojhfbcgaiaaGreatDoor

namespace Go.Proofs.YthcgojhfbcgaiaaGreatDoor
open Ieee

/-- The rung of a power of two. -/
def RP (e : Nat) : Nat := (e + 1023) * 2 ^ 52
theorem RP_eq (e : Nat) : RP e = (e + 1022) * 2 ^ 52 + 2 ^ 52 := by
  unfold RP; rw [show e + 1023 = e + 1022 + 1 from rfl, Nat.add_mul, Nat.one_mul]
theorem RP_in {e : Nat} (h : e < 1024) : RP e < 2047 * 2 ^ 52 := by
  unfold RP; exact Nat.mul_lt_mul_of_pos_right (by omega) (Nat.two_pow_pos 52)
theorem rungVal_RP (e : Nat) : rungVal (RP e) = 2 ^ e * E := by
  have h := rungVal_at (e + 1022) (2 ^ 52) (by omega) (.inr (Nat.le_refl _))
  have e1 : RP e = (e + 1022) * 2 ^ 52 + 2 ^ 52 := RP_eq e
  rw [e1, h]
  show _ = 2 ^ e * 2 ^ E74
  have e2 : 52 + (e + 1022) = e + E74 := by have := E74_eq; omega
  rw [← Nat.pow_add, ← Nat.pow_add, e2]
/-- At most 2^e, of either sign. -/
def Mp (x e : Nat) : Prop := Mg x (2 ^ e * E)
theorem Mp.mono {x a b : Nat} (h : Mp x a) (hb : a ≤ b) : Mp x b := Mg.mono h (Nat.mul_le_mul_right _ (Nat.pow_le_pow_right (by omega) hb))
theorem Mi.toMp {x n e : Nat} (h : Mi x n) (hn : n ≤ 2 ^ e) : Mp x e := Mg.mono h (Nat.mul_le_mul_right _ hn)
theorem two_pow_le_succ {a b c : Nat} (ha : a ≤ c) (hb : b ≤ c) : 2 ^ a * E + 2 ^ b * E ≤ 2 ^ (c + 1) * E := by
  rw [← Nat.add_mul, Nat.pow_succ]
  refine Nat.mul_le_mul_right _ ?_
  have h1 : 2 ^ a ≤ 2 ^ c := Nat.pow_le_pow_right (by omega) ha
  have h2 : 2 ^ b ≤ 2 ^ c := Nat.pow_le_pow_right (by omega) hb
  omega
theorem mp_add {x y a b : Nat} (c : Nat) (hx : Mp x a) (hy : Mp y b) (ha : a ≤ c) (hb : b ≤ c) (h : c < 1000) : ∃ r, double.add x y = some r ∧ Mp r (c + 1) := by
  obtain ⟨r, h1, h2⟩ := mg_add (ρ := RP (c + 1)) hx hy (by rw [rungVal_RP]; exact two_pow_le_succ ha hb) (RP_in (by omega))
  rw [rungVal_RP] at h2
  exact ⟨r, h1, h2⟩
theorem mp_sub {x y a b : Nat} (c : Nat) (hx : Mp x a) (hy : Mp y b) (ha : a ≤ c) (hb : b ≤ c) (h : c < 1000) : ∃ r, double.sub x y = some r ∧ Mp r (c + 1) := by
  obtain ⟨r, h1, h2⟩ := mg_sub (ρ := RP (c + 1)) hx hy (by rw [rungVal_RP]; exact two_pow_le_succ ha hb) (RP_in (by omega))
  rw [rungVal_RP] at h2
  exact ⟨r, h1, h2⟩
theorem mp_mul {x y a b : Nat} (hx : Mp x a) (hy : Mp y b) (h : a + b < 1000) : ∃ r, double.mul x y = some r ∧ Mp r (a + b) := by
  obtain ⟨r, h1, h2⟩ := mg_mul (ρ := RP (a + b)) hx hy (by
    rw [rungVal_RP, Nat.pow_add]
    show 2 ^ a * E * (2 ^ b * E) ≤ 2 ^ a * 2 ^ b * E * E
    rw [show 2 ^ a * E * (2 ^ b * E) = 2 ^ a * 2 ^ b * E * E by ac_rfl]; exact Nat.le_refl _) (RP_in (by omega))
  rw [rungVal_RP] at h2
  exact ⟨r, h1, h2⟩
theorem mp_neg {x n : Nat} (h : Mp x n) : Mp (x ^^^ 2 ^ 63) n := by
  obtain ⟨s, m, k, h1, h2⟩ := h
  exact ⟨!s, m, k, by rw [read_neg, h1]; rfl, h2⟩
end Go.Proofs.YthcgojhfbcgaiaaGreatDoor

namespace Go.Proofs.YthcgojhfbcgaiaaGreatDoor
open Go.RowKit Go.Proofs Ieee

theorem order_self {x B : Nat} (h : Mg x B) : FloatKind.f64.format.order x x = some .eq := by
  obtain ⟨s, m, k, h1, _⟩ := h
  show double.order x x = _
  unfold Format.order
  rw [h1]
  simp [Datum.order]
set_option maxRecDepth 100000 in
theorem IsNaN_calls {x B : Nat} (h : Mg x B) (w : World) : Calls Tryz.prog 32 #[.float .f64 x] w fun e w' => e = .returned (.bool false) ∧ w = w' := by
  have o := order_self h
  clear h
  go_enter Tryz.func32, Tryz.ntmps32
  go_wp2_with fail
  go_ret
  exact ⟨rfl, rfl⟩
theorem run_f64bits (x : Nat) (w : World) : (callFunc 122 #[.float .f64 x]).run Tryz.prog w = .ok (.value (.int .u64 (x : Int))) w := by
  rw [run_callFunc_extern (fn := Tryz.f122) (e := Extern.MathFloatBits.float64bits) (by kernel_rfl) (by kernel_rfl) (by kernel_rfl) (by kernel_rfl) (by kernel_rfl)]
  rfl
theorem run_f64frombits (x : Nat) (w : World) : (callFunc 64 #[.int .u64 (x : Int)]).run Tryz.prog w = .ok (.value (.float .f64 x)) w := by
  rw [run_callFunc_extern (fn := Tryz.f64) (e := Extern.MathFloatBits.float64frombits) (by kernel_rfl) (by kernel_rfl) (by kernel_rfl) (by kernel_rfl) (by kernel_rfl)]
  rfl
theorem bits_abs {x r : Nat} (hx : x < 2 ^ 64) (h : x % 2 ^ 63 = r) : bits .andNot .u64 (x : Int) 9223372036854775808 = (r : Int) := by
  have := u64_andNot_nat x 9223372036854775808 (by omega) (by omega)
  rw [show ((9223372036854775808 : Nat) : Int) = 9223372036854775808 from rfl] at this
  rw [this, show 18446744073709551615 - 9223372036854775808 = 2 ^ 63 - 1 by rfl, Nat.and_two_pow_sub_one_eq_mod, h]
set_option maxRecDepth 100000 in
theorem Abs_calls {x r : Nat} (hx : x < 2 ^ 64) (h : x % 2 ^ 63 = r) (w : World) : Calls Tryz.prog 121 #[.float .f64 x] w fun e w' => e = .returned (.float .f64 r) ∧ w = w' := by
  have hb := bits_abs hx h
  have f1 := run_f64bits x
  have f2 := run_f64frombits r
  clear hx h
  go_enter Tryz.func121, Tryz.ntmps121
  go_wp2_with fail
  go_ret
  exact ⟨rfl, rfl⟩
set_option maxRecDepth 100000 in
theorem IsInf_calls {x r : Nat} (hx : x < 2 ^ 64) (h : x % 2 ^ 63 = r) (hr : r < 2047 * 2 ^ 52) (w : World) : Calls Tryz.prog 106 #[.float .f64 x, .int .i64 0] w fun e w' => e = .returned (.bool false) ∧ w = w' := by
  have hc := Lib.hid (Abs_calls hx h w)
  have o := ord_le (x := r) (y := 9218868437227405311) hr (by omega)
  have hle : r ≤ 9218868437227405311 := by omega
  rcases Nat.lt_or_eq_of_le hle with h8 | h8
  all_goals
    first | rw [Nat.compare_eq_lt.2 h8] at o | rw [Nat.compare_eq_eq.2 h8] at o
    clear hx h hr hle h8
    go_enter Tryz.func106, Tryz.ntmps106
    go_wp2_with (go_at_call 121; refine hc.out.mono ?_; rintro e w2 ⟨rfl, rfl⟩)
    go_ret
    exact ⟨rfl, rfl⟩
end Go.Proofs.YthcgojhfbcgaiaaGreatDoor
