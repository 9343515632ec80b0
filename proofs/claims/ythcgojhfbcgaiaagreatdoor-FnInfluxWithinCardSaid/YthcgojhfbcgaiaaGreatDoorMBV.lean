/- A quantile between two means: what weightedAverage computes. Plain lemmas. weightedAverage; Quantile's test; sort.Search with it. Conditions: the means are in order; the weights' sum is at least a half; the digest lies in memory. -/
import Derived.Test.YthcgojhfbcgaiaaGreatDoorMBS
import Derived.Test.YthcgojhfbcgaiaaGreatDoorMAJ
import Derived.Test.YthcgojhfbcgaiaaGreatDoorMAK

namespace Go.Proofs.YthcgojhfbcgaiaaGreatDoor
open Go.RowKit Go.Proofs Ieee

theorem mi_FX {k : Int} {n : Nat} (hk : k.natAbs ≤ 16 * n) (hn : n < 2 ^ 40) : Mi (FX k) n := by
  obtain ⟨m, j, h1, h2, _⟩ := FX_Fz (j := k) (by omega)
  refine ⟨_, m, j, h1, ?_⟩
  rw [h2, Int.natAbs_mul]
  have e : ((2 : Int) ^ E70).natAbs = 2 ^ E70 := by rw [Int.natAbs_pow]; rfl
  rw [e]
  have hE : E = 16 * 2 ^ E70 := by show 2 ^ E74 = _; rw [E74_eq, E70_eq]; decide +kernel
  rw [hE, ← Nat.mul_assoc]
  exact Nat.mul_le_mul_right _ (by omega)
theorem FX_64 {k : Int} (hk : k.natAbs < 2 ^ 53) : FX k < 2 ^ 64 := by
  obtain ⟨r, h1, h2, _⟩ := FX_word hk
  rw [h1]
  unfold Format.word
  rw [two63]
  split <;> omega
/-- A number over at least a half. -/
theorem mi_half {x a q : Nat} {d : Nat} (hx : Mi x a) (hd : 8 ≤ d) (hd2 : d < 2 ^ 40) (hq : 2 * a ≤ q) (hq2 : q < 2 ^ 49) : ∃ r, double.div x (FX (d : Int)) = some r ∧ Mi r q := by
  have hI := FX_lt d (by omega)
  obtain ⟨n, l, h1, h2, _⟩ := read_pos hI
  have v := (FP_spec (p := 4) (j := d) (by omega) (by omega)).2
  rw [← FX_FP] at v
  have hE : (2 : Nat) ^ E74 = E := rfl
  rw [hE] at v
  obtain ⟨r, r1, r2⟩ := mg_div (x := x) (y := FX (d : Int)) (A := a * E) (b := rungVal (FX (d : Int))) (ρ := FI q) hx ⟨false, n, l, h1, by rw [h2]; exact Nat.le_refl _⟩ (by have := E_pos; have : 0 < d * E := Nat.mul_pos (by omega) this; omega)
    (by
      rw [rungVal_FI q (by omega), hE]
      generalize rungVal (FX (d : Int)) = Z at v ⊢
      have h8 : E ≤ Z * 2 := by have := Nat.mul_le_mul_right E hd; omega
      calc a * E * E ≤ a * E * (Z * 2) := Nat.mul_le_mul_left _ h8
        _ = (2 * a) * (E * Z) := by rw [Nat.mul_assoc a E, Nat.mul_comm 2 a, Nat.mul_assoc a 2, ← Nat.mul_assoc E Z 2, Nat.mul_comm (E * Z) 2]
        _ ≤ q * (E * Z) := Nat.mul_le_mul_right _ hq
        _ = q * E * Z := by rw [Nat.mul_assoc]) (FI_in q (by omega))
  exact ⟨r, r1, by rw [rungVal_FI q (by omega)] at r2; exact r2⟩

theorem dec_neg {y : Nat} (hy : y < 2047 * 2 ^ 52) : ∃ m k : Nat, FloatKind.f64.decode (y ^^^ 2 ^ 63) = .number true m ((k : Int) - 1074) ∧ m * 2 ^ k = rungVal y := by
  obtain ⟨m, k, h1, h2, _⟩ := read_pos hy
  refine ⟨m, k, ?_, h2⟩
  show double.read (y ^^^ 2 ^ 63) = _
  rw [read_neg, h1]; rfl
theorem zero_of {m k : Nat} (h : (Datum.number true m ((k : Int) - 1074)).isZero = false) : m ≠ 0 := fun e => by
  rw [e] at h
  exact absurd h (by intro h; cases h)
theorem zeroF_of {m k : Nat} (h : (Datum.number false m ((k : Int) - 1074)).isZero = false) : m ≠ 0 := fun e => by
  rw [e] at h
  exact absurd h (by intro h; cases h)
theorem ord_ng {m k n l : Nat} (h : m ≠ 0 ∨ n ≠ 0) : (Datum.number true m ((k : Int) - 1074)).order (Datum.number false n ((l : Int) - 1074)) = some .lt := by
  simp only [Datum.order]
  obtain ⟨c, hc⟩ : ∃ c : Nat, c = min k l := ⟨_, rfl⟩
  rw [show min ((k : Int) - 1074) ((l : Int) - 1074) = (c : Int) - 1074 by omega, show ((k : Int) - 1074 - ((c : Int) - 1074)).toNat = k - c by omega,
    show ((l : Int) - 1074 - ((c : Int) - 1074)).toNat = l - c by omega, signed_false, signed_true]
  have hp : 0 < m * 2 ^ (k - c) ∨ 0 < n * 2 ^ (l - c) := by
    rcases h with h | h
    · exact .inl (Nat.mul_pos (Nat.pos_of_ne_zero h) (Nat.two_pow_pos _))
    · exact .inr (Nat.mul_pos (Nat.pos_of_ne_zero h) (Nat.two_pow_pos _))
  rw [Int.compare_eq_lt.2 (by omega)]
theorem ord_gn {m k n l : Nat} (h : m ≠ 0 ∨ n ≠ 0) : (Datum.number false n ((l : Int) - 1074)).order (Datum.number true m ((k : Int) - 1074)) = some .gt := by
  simp only [Datum.order]
  obtain ⟨c, hc⟩ : ∃ c : Nat, c = min l k := ⟨_, rfl⟩
  rw [show min ((l : Int) - 1074) ((k : Int) - 1074) = (c : Int) - 1074 by omega, show ((k : Int) - 1074 - ((c : Int) - 1074)).toNat = k - c by omega,
    show ((l : Int) - 1074 - ((c : Int) - 1074)).toNat = l - c by omega, signed_false, signed_true]
  have hp : 0 < m * 2 ^ (k - c) ∨ 0 < n * 2 ^ (l - c) := by
    rcases h with h | h
    · exact .inl (Nat.mul_pos (Nat.pos_of_ne_zero h) (Nat.two_pow_pos _))
    · exact .inr (Nat.mul_pos (Nat.pos_of_ne_zero h) (Nat.two_pow_pos _))
  rw [Int.compare_eq_gt.2 (by omega)]
theorem minR_neg {y x : Nat} (hy : y < 2047 * 2 ^ 52) (hx : x < 2047 * 2 ^ 52) : minR (y ^^^ 2 ^ 63) x = y ^^^ 2 ^ 63 := by
  obtain ⟨m, k, d1, _⟩ := dec_neg hy
  obtain ⟨n, l, h3, _, _⟩ := read_pos hx
  have d2 : FloatKind.f64.decode x = .number false n ((l : Int) - 1074) := h3
  unfold minR
  simp only [d1, d2]
  have e1 : ((Datum.number true m ((k : Int) - 1074) == Datum.infinity true) || (Datum.number false n ((l : Int) - 1074) == Datum.infinity true)) = false := by
    rw [Bool.or_eq_false_iff]; constructor <;> (rw [beq_eq_false_iff_ne]; intro h; cases h)
  have e2 : ((Datum.number true m ((k : Int) - 1074)).isNaN || (Datum.number false n ((l : Int) - 1074)).isNaN) = false := rfl
  have e4 : (Datum.number true m ((k : Int) - 1074)).neg = true := rfl
  rw [e1, e2, e4]
  simp only [Bool.false_eq_true, if_false]
  cases e3 : ((Datum.number true m ((k : Int) - 1074)).isZero && (Datum.number false n ((l : Int) - 1074)).isZero) with
  | true => rfl
  | false =>
    have h0 : m ≠ 0 ∨ n ≠ 0 := by
      rw [Bool.and_eq_false_iff] at e3
      rcases e3 with h | h
      · exact .inl (zero_of h)
      · exact .inr (zeroF_of h)
    rw [ord_ng h0]
    rfl
theorem maxR_neg {x y : Nat} (hx : x < 2047 * 2 ^ 52) (hy : y < 2047 * 2 ^ 52) : maxR x (y ^^^ 2 ^ 63) = x := by
  obtain ⟨m, k, d1, _⟩ := dec_neg hy
  obtain ⟨n, l, h3, _, _⟩ := read_pos hx
  have d2 : FloatKind.f64.decode x = .number false n ((l : Int) - 1074) := h3
  unfold maxR
  simp only [d1, d2]
  have e1 : ((Datum.number false n ((l : Int) - 1074) == Datum.infinity false) || (Datum.number true m ((k : Int) - 1074) == Datum.infinity false)) = false := by
    rw [Bool.or_eq_false_iff]; constructor <;> (rw [beq_eq_false_iff_ne]; intro h; cases h)
  have e2 : ((Datum.number false n ((l : Int) - 1074)).isNaN || (Datum.number true m ((k : Int) - 1074)).isNaN) = false := rfl
  have e4 : (Datum.number false n ((l : Int) - 1074)).neg = false := rfl
  rw [e1, e2, e4]
  simp only [Bool.false_eq_true, if_false]
  cases e3 : ((Datum.number false n ((l : Int) - 1074)).isZero && (Datum.number true m ((k : Int) - 1074)).isZero) with
  | true => rfl
  | false =>
    have h0 : m ≠ 0 ∨ n ≠ 0 := by
      rw [Bool.and_eq_false_iff] at e3
      rcases e3 with h | h
      · exact .inr (zeroF_of h)
      · exact .inl (zero_of h)
    rw [ord_gn h0]
    rfl
/-- The middle of three, whatever the second is. -/
theorem mid_of {x1 x2 x n : Nat} (h : x1 ≤ x2) (hb : x2 < 2047 * 2 ^ 52) (hx : Mi x n) (hn : n < 2 ^ 49) (h64 : x < 2 ^ 64) : ∃ r, maxR x1 (minR x x2) = r ∧ x1 ≤ r ∧ r ≤ x2 := by
  have h1 : x1 < 2047 * 2 ^ 52 := by omega
  have key : ∀ y, y < 2047 * 2 ^ 52 → x = y ^^^ 2 ^ 63 → ∃ r, maxR x1 (minR x x2) = r ∧ x1 ≤ r ∧ r ≤ x2 := fun y hy e => by
    rw [e, minR_neg hy hb, maxR_neg h1 hy]
    exact ⟨x1, rfl, Nat.le_refl _, h⟩
  rcases mi_class hx h64 hn with h2 | h2 | ⟨y, h2, _, h3⟩
  · have hI := FI_in n hn
    have hx2 : x < 2047 * 2 ^ 52 := by omega
    rw [minR_pos hx2 hb, maxR_pos h1 (by omega)]
    exact ⟨_, rfl, by omega, by omega⟩
  · exact key 0 (by omega) (by rw [h2]; decide)
  · have hI := FI_in n hn
    exact key y (by omega) h2

/-- What weightedAverageSorted adds up. -/
theorem wavg_num {x1 x2 w1 w2 : Nat} {d : Nat} (hx1 : x1 ≤ FI 1000) (hx2 : x2 ≤ FI 1000) (m1 : Mi w1 1000) (m2 : Mi w2 1000) (hd : 8 ≤ d) (hd2 : d < 2 ^ 40) :
    ∃ a b s x, double.mul x1 w1 = some a ∧ double.mul x2 w2 = some b ∧ double.add a b = some s ∧ double.div s (FX (d : Int)) = some x ∧ Mi x 4000000 ∧ x < 2 ^ 64 := by
  obtain ⟨a, a1, a2⟩ := mi_mul (Mi.pos (by omega) hx1) m1 (by omega)
  obtain ⟨b, b1, b2⟩ := mi_mul (Mi.pos (by omega) hx2) m2 (by omega)
  obtain ⟨s, s1, s2⟩ := mi_add a2 b2 (by omega)
  obtain ⟨x, e1, e2⟩ := mi_half (d := d) (q := 4000000) s2 hd hd2 (by omega) (by omega)
  exact ⟨a, b, s, x, a1, b1, s1, e1, e2, Ieee.Format.div_lt double e1⟩

/-- The least and a part of the way to the first mean: not past the greatest, but for a little. -/
theorem arm_ok {mn m0 r n : Nat} (hn : n < 1000) (h1 : mn ≤ m0) (h2 : m0 ≤ FI n) (hr : r ≤ FI 1) :
    ∃ d p res, double.sub m0 mn = some d ∧ double.mul r d = some p ∧ double.add mn p = some res ∧ mn ≤ res ∧ rungVal res ≤ rungVal (FI n) + rungVal epsW ∧ res < 2047 * 2 ^ 52 := by
  have hI := FI_in n (by omega)
  have hm0 : m0 < 2047 * 2 ^ 52 := by omega
  obtain ⟨d, d1, d2, d3, _⟩ := sub_pos hm0 h1
  have d4 := round_near d3
  have hr1 : r < 2047 * 2 ^ 52 := by have := FI_in 1 (by omega); omega
  obtain ⟨P, p1, p2, _⟩ := mul_spec hr1 (show d < 2047 * 2 ^ 52 by omega)
  have v1 : rungVal (FI 1) = E := by rw [rungVal_FI 1 (by omega), Nat.one_mul]
  have hrv := rungVal_mono hr
  rw [v1] at hrv
  have hPd : P ≤ d := p2 d (by
    show rungVal r * rungVal d ≤ rungVal d * E
    rw [Nat.mul_comm]; exact Nat.mul_le_mul_left _ hrv)
  rw [Nat.min_eq_left (by omega)] at p1
  have hmn : mn < 2047 * 2 ^ 52 := by omega
  obtain ⟨R, r1, r2, r3⟩ := add_pos hmn (show P < 2047 * 2 ^ 52 by omega)
  have r4 := round_near r2
  have vP := rungVal_mono hPd
  have vm := rungVal_mono h1
  have vh := rungVal_mono h2
  have vn : rungVal (FI n) = n * E := rungVal_FI n (by omega)
  have hnE : n * E ≤ 999 * E := Nat.mul_le_mul_right _ (by omega)
  have hEpos := E_pos
  have heps : 3000 * E ≤ rungVal epsW * U52 := of_decide_eq_true (by decide +kernel)
  have hU : U52 = 4503599627370496 := rfl
  have hres : rungVal R ≤ rungVal (FI n) + rungVal epsW := by
    rw [hU] at d4 r4 heps
    generalize rungVal R = VR at *
    generalize rungVal d = Vd at *
    generalize rungVal P = VP at *
    generalize rungVal mn = Vmn at *
    generalize rungVal m0 = Vm0 at *
    generalize rungVal (FI n) = VH at *
    generalize rungVal epsW = Ve at *
    generalize n * E = nE at *
    omega
  have hRI : R < 2047 * 2 ^ 52 := by
    have he1 := rungVal_mono eps_FI1
    rw [v1] at he1
    have : R ≤ FI 1001 := rungVal_le.1 (by rw [rungVal_FI 1001 (by omega)]; omega)
    have := FI_in 1001 (by omega)
    omega
  rw [Nat.min_eq_left (by omega)] at r1
  exact ⟨d, P, R, d1, p1, r1, r3 mn (Nat.le_add_right _ _), hres, hRI⟩
/-- The greatest, and a little more: what is not past it. -/
theorem high_ok2 {n : Nat} (hn : n < 1000) : ∃ d, Ieee.double.add (FI n) epsW = some d ∧ ∀ m, m < 2047 * 2 ^ 52 → rungVal m ≤ rungVal (FI n) + rungVal epsW → ∃ o, FloatKind.f64.format.order m d = some o ∧ o ≠ .gt := by
  obtain ⟨R, r1, r2, r3⟩ := add_pos (FI_in n (by omega)) eps_lt
  refine ⟨_, r1, fun m hm h => ⟨_, ord_le hm ?_, fun hc => ?_⟩⟩
  · have he1 := rungVal_mono eps_FI1
    have : R ≤ FI 1001 := r2 _ (by rw [rungVal_FI 1001 (by omega)]; rw [rungVal_FI 1 (by omega)] at he1; rw [rungVal_FI n (by omega)]; have : n * E ≤ 999 * E := Nat.mul_le_mul_right _ (by omega); omega)
    have := FI_in 1001 (by omega)
    omega
  · rw [Nat.compare_eq_gt] at hc
    have := r3 m h
    omega
end Go.Proofs.YthcgojhfbcgaiaaGreatDoor

namespace Go.Proofs.YthcgojhfbcgaiaaGreatDoor
open Go.RowKit Go.Proofs Ieee

set_option maxRecDepth 100000 in
theorem wavgS_calls {x1 x2 w1 w2 d : Nat} (h12 : x1 ≤ x2) (hx2 : x2 ≤ FI 1000) (m1 : Mi w1 1000) (m2 : Mi w2 1000) (hd : 8 ≤ d) (hd2 : d < 2 ^ 40) (hs : double.add w1 w2 = some (FX (d : Int))) :
    ∃ r, x1 ≤ r ∧ r ≤ x2 ∧ ∀ w, Calls Tryz.prog 65 #[.float .f64 x1, .float .f64 w1, .float .f64 x2, .float .f64 w2] w fun e w' => e = .returned (.float .f64 r) ∧ w = w' := by
  obtain ⟨a, b, s, x, a1, b1, s1, e1, hx, hx64⟩ := wavg_num (x1 := x1) (by omega) hx2 m1 m2 hd hd2
  have hI := FI_in 1000 (by omega)
  obtain ⟨r, r1, r2, r3⟩ := mid_of h12 (by omega) hx (by omega) hx64
  refine ⟨r, r2, r3, fun w => ?_⟩
  have f1 := rm a1
  have f2 := rm b1
  have f3 := ra s1
  have f4 := ra hs
  have f5 := rq e1
  have c1 := fun w => Lib.hid (Min_calls x x2 w)
  have c2 := fun w => Lib.hid (Max_calls x1 (minR x x2) w)
  rw [r1] at c2
  generalize FX (d : Int) = D at *
  generalize minR x x2 = M at *
  clear a1 b1 s1 e1 hx hx64 r1 r2 r3 hs h12 hx2 m1 m2 hd hd2 hI
  go_enter Tryz.func65, Tryz.ntmps65
  go_wp2_with (first
    | (go_at_call 52; refine (c1 _).out.mono ?_; rintro e w1 ⟨rfl, rfl⟩)
    | (go_at_call 53; refine (c2 _).out.mono ?_; rintro e w1 ⟨rfl, rfl⟩))
  go_ret
  exact ⟨rfl, rfl⟩
set_option maxRecDepth 100000 in
theorem wavg_calls {x1 x2 w1 w2 d : Nat} (h12 : x1 ≤ x2) (hx2 : x2 ≤ FI 1000) (m1 : Mi w1 1000) (m2 : Mi w2 1000) (hd : 8 ≤ d) (hd2 : d < 2 ^ 40) (hs : double.add w1 w2 = some (FX (d : Int))) :
    ∃ r, x1 ≤ r ∧ r ≤ x2 ∧ ∀ w, Calls Tryz.prog 43 #[.float .f64 x1, .float .f64 w1, .float .f64 x2, .float .f64 w2] w fun e w' => e = .returned (.float .f64 r) ∧ w = w' := by
  obtain ⟨r, r2, r3, hc⟩ := wavgS_calls h12 hx2 m1 m2 hd hd2 hs
  refine ⟨r, r2, r3, fun w => ?_⟩
  have hI := FI_in 1000 (by omega)
  have ho := ord_le (x := x1) (y := x2) (by omega) (by omega)
  have Hc := Lib.hid hc
  clear hs hx2 m1 m2 hd hd2 hI hc r2 r3
  rcases Nat.lt_or_eq_of_le h12 with h | h
  all_goals
    first | rw [Nat.compare_eq_lt.2 h] at ho | rw [Nat.compare_eq_eq.2 h] at ho
    clear h h12
    go_enter Tryz.func43, Tryz.ntmps43
    go_wp2_with (go_at_call 65; refine (Hc.out _).mono ?_; rintro e w1 ⟨rfl, rfl⟩)
    go_ret
    exact ⟨rfl, rfl⟩

set_option maxRecDepth 100000 in
theorem testQ_calls {w : World} {TB g IB kC n capC i x y : Nat} {T : Bool} (h1 : w.cell? ⟨TB, 0, none⟩ = some (.pointer (some ⟨g, 0, none⟩))) (h2 : w.cell? ⟨g, 5, none⟩ = some (.slice (some ⟨kC, 0, none⟩) n capC))
    (h3 : w.cell? ⟨kC, i, none⟩ = some (.float .f64 x)) (h4 : w.cell? ⟨IB, 0, none⟩ = some (.float .f64 y)) (hi : i < n) (hn : n ≤ 1000) (hx : x < 2047 * 2 ^ 52) (hy : y < 2047 * 2 ^ 52) (hT : T = decide (y ≤ x)) :
    Calls Tryz.prog 42 #[.int .i64 i, .pointer (some ⟨TB, 0, none⟩), .pointer (some ⟨IB, 0, none⟩)] w fun e w' => e = .returned (.bool T) ∧ ∃ d, w' = w.drewN d := by
  have ho := ord_le hx hy
  have hi' : (i : Int) < (n : Int) := by omega
  have hl' : (n : Int) ≤ 1000 := by omega
  have hi0 : (0 : Int) ≤ (i : Int) := by omega
  clear hx hy hi hn
  rcases Nat.lt_trichotomy x y with h | h | h
  · rw [Nat.compare_eq_lt.2 h] at ho
    have : T = false := by rw [hT]; exact decide_eq_false (by omega)
    subst this
    clear h hT
    go_enter Tryz.func42, Tryz.ntmps42
    go_wp2_with fail
    go_quiet (fail)
    go_wp2_with fail
    go_ret
    exact ⟨rfl, _, rfl⟩
  · rw [Nat.compare_eq_eq.2 h] at ho
    have : T = true := by rw [hT]; exact decide_eq_true (by omega)
    subst this
    clear h hT
    go_enter Tryz.func42, Tryz.ntmps42
    go_wp2_with fail
    go_quiet (fail)
    go_wp2_with fail
    go_ret
    exact ⟨rfl, _, rfl⟩
  · rw [Nat.compare_eq_gt.2 h] at ho
    have : T = true := by rw [hT]; exact decide_eq_true (by omega)
    subst this
    clear h hT
    go_enter Tryz.func42, Tryz.ntmps42
    go_wp2_with fail
    go_quiet (fail)
    go_wp2_with fail
    go_ret
    exact ⟨rfl, _, rfl⟩

set_option maxRecDepth 100000 in
set_option maxHeartbeats 400000 in
/-- sort.Search, whether the test is in order or not: a place at which the test turns. -/
theorem searchQ_calls {w : World} {TB IB n : Nat} (p : Nat → Bool) (hn : n ≤ 1000)
    (hp : Hid (∀ i j, i < n → Calls Tryz.prog 42 #[.int .i64 (i : Nat), .pointer (some ⟨TB, 0, none⟩), .pointer (some ⟨IB, 0, none⟩)] (w.drewN j) fun r w' => r = .returned (.bool (p i)) ∧ ∃ d, w' = (w.drewN j).drewN d)) :
    Calls Tryz.prog 41 #[.int .i64 n, .func (.func 42) #[] #[.pointer (some ⟨TB, 0, none⟩), .pointer (some ⟨IB, 0, none⟩)]] w fun e w' => ∃ k : Nat, e = .returned (.int .i64 k) ∧ Hid (k ≤ n ∧ (k = 0 ∨ p (k - 1) = false) ∧ (k = n ∨ p k = true) ∧ ∃ d, w' = w.drewN d) := by
  have hn' : (n : Int) ≤ 1000 := by omega
  have Hn := Lib.hid hn
  clear hn
  go_enter Tryz.func41, Tryz.ntmps41
  go_wp2_with fail
  go_loopw [5, 6] (fun s5 s6 wr => ∃ i j d : Nat, s5 = .int .i64 i ∧ s6 = .int .i64 j ∧ Hid (i ≤ j ∧ j ≤ n ∧ (i = 0 ∨ p (i - 1) = false) ∧ (j = n ∨ p j = true)) ∧ Hid (wr = w.drewN d))
    (fun s5 s6 _ => (intOf s6 - intOf s5).toNat)
  case atStart => exact ⟨0, n, 0, rfl, rfl, ⟨Nat.zero_le _, Nat.le_refl _, .inl rfl, .inl rfl⟩, rfl⟩
  case round =>
    obtain ⟨i, j, d, rfl, rfl, hij, hw⟩ := hrel
    obtain ⟨a1, a2, a3, a4⟩ := hij.out
    have hij1 : (i : Int) ≤ (j : Int) := by omega
    have hjn : (j : Int) ≤ 1000 := by have := Hn.out; omega
    rcases Nat.lt_or_ge i j with hlt | hge
    · obtain ⟨h, hh⟩ : ∃ h, h = (i + j) / 2 := ⟨_, rfl⟩
      have hpc := hp.out h d (by omega)
      rw [← hw.out] at hpc
      have e1 : ((i : Int) + (j : Int)) / 2 = (h : Int) := by omega
      have hhi : (h : Int) ≤ 1000 := by omega
      have Hh := Lib.hid (show i ≤ h ∧ h < j by omega)
      obtain ⟨b, hb⟩ : ∃ b, b = p h := ⟨_, rfl⟩
      rw [← hb] at hpc
      have Hb := Lib.hid hb
      have A3 := Lib.hid a3
      have A4 := Lib.hid a4
      have Hpc := Lib.hid hpc
      have Hw := Lib.hid (⟨d, hw.out⟩ : ∃ d, wr = w.drewN d)
      clear hpc hb hh hw a3 a4
      cases b with
      | false =>
        go_wp2_with (go_at_call 42; refine Hpc.out.mono ?_; rintro r w' ⟨rfl, d', rfl⟩)
        go_roundw
        case rel =>
          obtain ⟨d0, hd0⟩ := Hw.out
          have := Hh.out
          exact ⟨h + 1, j, d0 + d', by go_num, rfl, ⟨by omega, a2, .inr Hb.out.symm, A4.out⟩, by rw [hd0, World.drewN_drewN]; rfl⟩
        case measure => have := Hh.out; simp [intOf]; omega
      | true =>
        go_wp2_with (go_at_call 42; refine Hpc.out.mono ?_; rintro r w' ⟨rfl, d', rfl⟩)
        go_roundw
        case rel =>
          obtain ⟨d0, hd0⟩ := Hw.out
          have := Hh.out
          exact ⟨i, h, d0 + d', rfl, rfl, ⟨by omega, by omega, A3.out, .inr Hb.out.symm⟩, by rw [hd0, World.drewN_drewN]; rfl⟩
        case measure => have := Hh.out; simp [intOf]; omega
    · obtain rfl : i = j := by omega
      go_wp2_with fail
      go_ret
      exact ⟨i, rfl, Lib.hid ⟨a2, a3, a4, d, hw.out⟩⟩
end Go.Proofs.YthcgojhfbcgaiaaGreatDoor
