/- slices.Min, slices.Max, spec.Sum, spec.Within, spec.Compression. Conditions: the rows lie in memory; the floats are finite and not negative. -/
import Derived.Test.YthcgojhfbcgaiaaGreatDoorMBR

namespace Go.Proofs.YthcgojhfbcgaiaaGreatDoor
open Go.RowKit Go.Proofs Ieee

def minTo (g : Nat → Nat) : Nat → Nat
  | 0 => g 0
  | k + 1 => min (minTo g k) (g (k + 1))
def maxTo (g : Nat → Nat) : Nat → Nat
  | 0 => g 0
  | k + 1 => max (maxTo g k) (g (k + 1))
theorem minTo_le (g : Nat → Nat) : ∀ k i, i ≤ k → minTo g k ≤ g i
  | 0, i, h => by rw [show i = 0 by omega]; exact Nat.le_refl _
  | k + 1, i, h => by
    unfold minTo
    rcases Nat.lt_or_ge i (k + 1) with h1 | h1
    · exact Nat.le_trans (Nat.min_le_left _ _) (minTo_le g k i (by omega))
    · rw [show i = k + 1 by omega]; exact Nat.min_le_right _ _
theorem maxTo_ge (g : Nat → Nat) : ∀ k i, i ≤ k → g i ≤ maxTo g k
  | 0, i, h => by rw [show i = 0 by omega]; exact Nat.le_refl _
  | k + 1, i, h => by
    unfold maxTo
    rcases Nat.lt_or_ge i (k + 1) with h1 | h1
    · exact Nat.le_trans (maxTo_ge g k i (by omega)) (Nat.le_max_left _ _)
    · rw [show i = k + 1 by omega]; exact Nat.le_max_right _ _
theorem minTo_at (g : Nat → Nat) : ∀ k, ∃ i, i ≤ k ∧ minTo g k = g i
  | 0 => ⟨0, Nat.le_refl _, rfl⟩
  | k + 1 => by
    obtain ⟨i, h1, h2⟩ := minTo_at g k
    unfold minTo
    rcases Nat.le_total (minTo g k) (g (k + 1)) with h | h
    · exact ⟨i, by omega, by rw [Nat.min_eq_left h]; exact h2⟩
    · exact ⟨k + 1, Nat.le_refl _, Nat.min_eq_right h⟩
theorem maxTo_at (g : Nat → Nat) : ∀ k, ∃ i, i ≤ k ∧ maxTo g k = g i
  | 0 => ⟨0, Nat.le_refl _, rfl⟩
  | k + 1 => by
    obtain ⟨i, h1, h2⟩ := maxTo_at g k
    unfold maxTo
    rcases Nat.le_total (maxTo g k) (g (k + 1)) with h | h
    · exact ⟨k + 1, Nat.le_refl _, Nat.max_eq_right h⟩
    · exact ⟨i, by omega, by rw [Nat.max_eq_left h]; exact h2⟩
theorem neg_false {x : Nat} (hx : x < 2047 * 2 ^ 52) : (FloatKind.f64.decode x).neg = false := by
  obtain ⟨m, k, h1, _⟩ := read_pos hx
  have d1 : FloatKind.f64.decode x = .number false m ((k : Int) - 1074) := h1
  rw [d1]; rfl

theorem run_min2 {m x : Nat} (hm : m < 2047 * 2 ^ 52) (hx : x < 2047 * 2 ^ 52) (ts : Array TypeId) (t : TypeId) (w : World) : (Builtin.min_ ts t #[.float .f64 m, .float .f64 x]).run Tryz.prog w = .ok (.float .f64 (min m x)) w := by
  have ho := ord_le hm hx
  have hn := neg_false hm
  show (Builtin.min2 (.float .f64 m) (.float .f64 x) >>= fun v => pure v : Sem Value).run Tryz.prog w = _
  unfold Builtin.min2
  rcases Nat.lt_trichotomy m x with h | h | h
  · rw [Nat.compare_eq_lt.2 h] at ho
    simp only [ho]; rw [Nat.min_eq_left (Nat.le_of_lt h)]; rfl
  · subst h
    rw [Nat.compare_eq_eq.2 rfl] at ho
    simp only [ho, hn]; rw [Nat.min_self]; rfl
  · rw [Nat.compare_eq_gt.2 h] at ho
    simp only [ho]; rw [Nat.min_eq_right (Nat.le_of_lt h)]; rfl
theorem run_max2 {m x : Nat} (hm : m < 2047 * 2 ^ 52) (hx : x < 2047 * 2 ^ 52) (ts : Array TypeId) (t : TypeId) (w : World) : (Builtin.max_ ts t #[.float .f64 m, .float .f64 x]).run Tryz.prog w = .ok (.float .f64 (max m x)) w := by
  have ho := ord_le hm hx
  have hn := neg_false hm
  show (Builtin.max2 (.float .f64 m) (.float .f64 x) >>= fun v => pure v : Sem Value).run Tryz.prog w = _
  unfold Builtin.max2
  rcases Nat.lt_trichotomy m x with h | h | h
  · rw [Nat.compare_eq_lt.2 h] at ho
    simp only [ho]; rw [Nat.max_eq_right (Nat.le_of_lt h)]; rfl
  · subst h
    rw [Nat.compare_eq_eq.2 rfl] at ho
    simp only [ho, hn]; rw [Nat.max_self]; rfl
  · rw [Nat.compare_eq_gt.2 h] at ho
    simp only [ho]; rw [Nat.max_eq_left (Nat.le_of_lt h)]; rfl
set_option maxRecDepth 100000 in
set_option maxHeartbeats 1000000 in
theorem minF_calls {V N cap : Nat} {g : Nat → Nat} {w : World} (hN : 1 ≤ N) (hN2 : N ≤ 100000) (hc : ∀ i, i < N → w.cell? ⟨V, i, none⟩ = some (.float .f64 (g i))) (hg : ∀ i, i < N → g i < 2047 * 2 ^ 52) :
    Calls Tryz.prog 21 #[.slice (some ⟨V, 0, none⟩) N cap] w fun e w' => e = .returned (.float .f64 (minTo g (N - 1))) ∧ w = w' := by
  have Hc := Lib.hid hc
  have Hg := Lib.hid hg
  have HN := Lib.hid hN
  have c0 := hc 0 (by omega)
  have hni : (N : Int) ≤ 100000 := by omega
  have hn1 : ¬ (N : Int) < 1 := by omega
  have hn0 : (0 : Int) < (N : Int) := by omega
  clear hc hg hN hN2
  go_enter Tryz.func21, Tryz.ntmps21
  go_wp2_with fail
  go_loop [3, 4] (fun s3 s4 => ∃ k : Nat, s4 = .int .i64 k ∧ s3 = .float .f64 (minTo g (k - 1)) ∧ 1 ≤ k ∧ k ≤ N) (fun _ s4 => N - (intOf s4).toNat)
  case atStart => exact ⟨1, by go_num, rfl, Nat.le_refl _, HN.out⟩
  case round =>
    obtain ⟨k, rfl, rfl, hk1, hkN⟩ := hrel
    rcases Nat.lt_or_ge k N with hlt | hge
    · have hcell := Hc.out k hlt
      have hki : (k : Int) < (N : Int) := by omega
      obtain ⟨m, hm⟩ : ∃ m, m = minTo g (k - 1) := ⟨_, rfl⟩
      obtain ⟨x, hx⟩ : ∃ x, x = g k := ⟨_, rfl⟩
      have hmI : m < 2047 * 2 ^ 52 := by
        obtain ⟨i, h1, h2⟩ := minTo_at g (k - 1)
        rw [hm, h2]; exact Hg.out i (by omega)
      have hxI : x < 2047 * 2 ^ 52 := by rw [hx]; exact Hg.out k hlt
      have hr := run_min2 hmI hxI
      have hst : Hid (minTo g (k + 1 - 1) = min m x) := Lib.hid (by
        obtain ⟨j, rfl⟩ : ∃ j, k = j + 1 := ⟨k - 1, by omega⟩
        rw [hm, hx]; rfl)
      rw [← hx] at hcell
      rw [← hm]
      clear hm hx hmI hxI
      generalize min m x = r at hr hst
      go_wp2_with fail
      go_round
      case rel => exact ⟨k + 1, by go_num, by rw [hst.out], by omega, by omega⟩
      case measure => simp [intOf]; omega
    · obtain rfl : k = N := by omega
      go_wp2_with fail
      go_ret
      exact ⟨rfl, rfl⟩
set_option maxRecDepth 100000 in
set_option maxHeartbeats 1000000 in
theorem maxF_calls {V N cap : Nat} {g : Nat → Nat} {w : World} (hN : 1 ≤ N) (hN2 : N ≤ 100000) (hc : ∀ i, i < N → w.cell? ⟨V, i, none⟩ = some (.float .f64 (g i))) (hg : ∀ i, i < N → g i < 2047 * 2 ^ 52) :
    Calls Tryz.prog 22 #[.slice (some ⟨V, 0, none⟩) N cap] w fun e w' => e = .returned (.float .f64 (maxTo g (N - 1))) ∧ w = w' := by
  have Hc := Lib.hid hc
  have Hg := Lib.hid hg
  have HN := Lib.hid hN
  have c0 := hc 0 (by omega)
  have hni : (N : Int) ≤ 100000 := by omega
  have hn1 : ¬ (N : Int) < 1 := by omega
  have hn0 : (0 : Int) < (N : Int) := by omega
  clear hc hg hN hN2
  go_enter Tryz.func22, Tryz.ntmps22
  go_wp2_with fail
  go_loop [3, 4] (fun s3 s4 => ∃ k : Nat, s4 = .int .i64 k ∧ s3 = .float .f64 (maxTo g (k - 1)) ∧ 1 ≤ k ∧ k ≤ N) (fun _ s4 => N - (intOf s4).toNat)
  case atStart => exact ⟨1, by go_num, rfl, Nat.le_refl _, HN.out⟩
  case round =>
    obtain ⟨k, rfl, rfl, hk1, hkN⟩ := hrel
    rcases Nat.lt_or_ge k N with hlt | hge
    · have hcell := Hc.out k hlt
      have hki : (k : Int) < (N : Int) := by omega
      obtain ⟨m, hm⟩ : ∃ m, m = maxTo g (k - 1) := ⟨_, rfl⟩
      obtain ⟨x, hx⟩ : ∃ x, x = g k := ⟨_, rfl⟩
      have hmI : m < 2047 * 2 ^ 52 := by
        obtain ⟨i, h1, h2⟩ := maxTo_at g (k - 1)
        rw [hm, h2]; exact Hg.out i (by omega)
      have hxI : x < 2047 * 2 ^ 52 := by rw [hx]; exact Hg.out k hlt
      have hr := run_max2 hmI hxI
      have hst : Hid (maxTo g (k + 1 - 1) = max m x) := Lib.hid (by
        obtain ⟨j, rfl⟩ : ∃ j, k = j + 1 := ⟨k - 1, by omega⟩
        rw [hm, hx]; rfl)
      rw [← hx] at hcell
      rw [← hm]
      clear hm hx hmI hxI
      generalize max m x = r at hr hst
      go_wp2_with fail
      go_round
      case rel => exact ⟨k + 1, by go_num, by rw [hst.out], by omega, by omega⟩
      case measure => simp [intOf]; omega
    · obtain rfl : k = N := by omega
      go_wp2_with fail
      go_ret
      exact ⟨rfl, rfl⟩

def sumU (u : Nat → Nat) (k : Nat) : Nat := ((List.range k).map u).sum
theorem sumU_succ (u : Nat → Nat) (k : Nat) : sumU u (k + 1) = sumU u k + u k := by simp [sumU, List.range_succ]
theorem sumU_le {u : Nat → Nat} {m : Nat} (h : ∀ i, u i ≤ m) (k : Nat) : sumU u k ≤ k * m := by
  induction k with
  | zero => simp [sumU]
  | succ k ih => rw [sumU_succ, Nat.succ_mul]; have := h k; omega
theorem sumU_wt (L : List Cen) : ∀ k, k ≤ L.length → sumU (fun i => L[i]!.w) k = wt (L.take k) := by
  intro k
  induction k with
  | zero => intro _; simp [sumU, wt]
  | succ k ih =>
    intro h
    rw [sumU_succ, ih (by omega), List.take_succ_eq_append_getElem (by omega), wt_append, wt_cons, wt_nil, Nat.add_zero]
    rw [getElem!_pos L k (by omega)]
set_option maxRecDepth 100000 in
set_option maxHeartbeats 400000 in
theorem sumF_calls {oa : Option Addr} {N cap : Nat} {u : Nat → Nat} {w : World} (hxs : 0 < N → ∃ V, oa = some ⟨V, 0, none⟩ ∧ ∀ i, i < N → w.cell? ⟨V, i, none⟩ = some (.float .f64 (FI (u i)))) (hN : N ≤ 100000) (hb : ∀ k, k ≤ N → sumU u k < 2 ^ 40) :
    Calls Tryz.prog 10 #[.slice oa N cap] w fun e w' => e = .returned (.float .f64 (FI (sumU u N))) ∧ w = w' := by
  have Hx := Lib.hid hxs
  have Hb := Lib.hid hb
  have hNi : (N : Int) ≤ 100000 := by omega
  clear hxs hb hN
  go_enter Tryz.func10, Tryz.ntmps10
  go_wp2_with fail
  go_loop [3, 8] (fun s3 s8 => ∃ k : Nat, k ≤ N ∧ s8 = .int .i64 k ∧ s3 = .float .f64 (FI (sumU u k))) (fun _ s8 => N - (intOf s8).toNat)
  case atStart => exact ⟨0, Nat.zero_le _, rfl, by rw [show sumU u 0 = 0 from rfl, FI_zero]⟩
  case round =>
    obtain ⟨k, hk, rfl, rfl⟩ := hrel
    rcases Nat.lt_or_ge k N with hlt | hge
    · obtain ⟨V, rfl, hc⟩ := Hx.out (by omega)
      have hcell := hc k hlt
      have h1 := Hb.out (k + 1) hlt
      rw [sumU_succ] at h1
      have q := ra (FI_add (sumU u k) (u k) (by omega) (by omega))
      rw [← sumU_succ] at q
      have hki : (k : Int) < (N : Int) := by omega
      obtain ⟨c, hc'⟩ : ∃ c, c = FI (sumU u (k + 1)) := ⟨_, rfl⟩
      rw [← hc'] at q
      have Hc := Lib.hid hc'
      generalize FI (sumU u k) = a at *
      generalize FI (u k) = b at *
      clear hc hc' h1
      go_wp2_with fail
      go_round
      case rel => exact ⟨k + 1, by omega, by go_num, by rw [Hc.out]⟩
      case measure => simp [intOf]; omega
    · obtain rfl : k = N := by omega
      go_wp2_with fail
      go_ret
      exact ⟨rfl, rfl⟩
set_option maxRecDepth 100000 in
set_option maxHeartbeats 1000000 in
theorem compr_calls (n : Nat) (hn : n < 256) (w : World) : Calls Tryz.prog 9 #[.int .u8 (n : Int)] w fun e w' => e = .returned (.int .i64 ((5 + n % 56 : Nat) : Int)) ∧ w = w' := by
  have e1 : (n : Int) % 56 = ((n % 56 : Nat) : Int) := by omega
  obtain ⟨m, hm⟩ : ∃ m, m = n % 56 := ⟨_, rfl⟩
  rw [← hm] at e1 ⊢
  have hmi : (m : Int) < 56 := by omega
  have hni : (n : Int) < 256 := by omega
  obtain ⟨r, hr⟩ : ∃ r, r = 5 + m := ⟨_, rfl⟩
  rw [← hr]
  have e2 : 5 + (m : Int) = (r : Int) := by omega
  clear hm hn hr
  go_enter Tryz.func9, Tryz.ntmps9
  go_wp2_with fail
  go_ret
  exact ⟨rfl, rfl⟩

/-! ### spec.Within -/
theorem order_pos_neg {m y : Nat} (hm : m < 2047 * 2 ^ 52) (hy : y < 2047 * 2 ^ 52) (h0 : 0 < y) : FloatKind.f64.format.order m (y ^^^ 2 ^ 63) = some .gt := by
  obtain ⟨a, k, h1, h2, _⟩ := read_pos hm
  obtain ⟨b, l, h3, h4, _⟩ := read_pos hy
  show double.order m (y ^^^ 2 ^ 63) = _
  unfold Format.order
  rw [h1, read_neg, h3]
  simp only [Datum.opposite, Datum.order]
  obtain ⟨c, hc⟩ : ∃ c : Nat, c = min k l := ⟨_, rfl⟩
  rw [show min ((k : Int) - 1074) ((l : Int) - 1074) = (c : Int) - 1074 by omega, show ((k : Int) - 1074 - ((c : Int) - 1074)).toNat = k - c by omega,
    show ((l : Int) - 1074 - ((c : Int) - 1074)).toNat = l - c by omega, signed_false, show (!false) = true from rfl, signed_true]
  have hb : b ≠ 0 := fun h => by
    rw [h, Nat.zero_mul] at h4
    have := rungVal_pos (Nat.pos_iff_ne_zero.1 h0); omega
  have hp : 0 < b * 2 ^ (l - c) := Nat.mul_pos (Nat.pos_of_ne_zero hb) (Nat.two_pow_pos _)
  rw [Int.compare_eq_gt.2 (by omega)]
def epsW : Nat := 4472406533629990549
theorem eps_lt : epsW < 2047 * 2 ^ 52 := by unfold epsW; omega
theorem eps_FI1 : epsW ≤ FI 1 := of_decide_eq_true (by decide +kernel)
/-- The least, less a little: nothing from the least on is below it. -/
theorem low_ok {n : Nat} (hn : n < 1000) : ∃ d, Ieee.double.sub (FI n) epsW = some d ∧ ∀ m, FI n ≤ m → m < 2047 * 2 ^ 52 → ∃ o, FloatKind.f64.format.order m d = some o ∧ o ≠ .lt := by
  have hI := FI_in n (by omega)
  rcases Nat.eq_zero_or_pos n with h | h
  · subst h
    refine ⟨epsW ^^^ 2 ^ 63, ?_, fun m _ hm => ⟨.gt, order_pos_neg hm eps_lt (by unfold epsW; omega), by simp⟩⟩
    rw [FI_zero]
    decide +kernel
  · have he : epsW ≤ FI n := Nat.le_trans eps_FI1 (rungVal_le.1 (by rw [rungVal_FI 1 (by omega), rungVal_FI n (by omega)]; exact Nat.mul_le_mul_right _ h))
    obtain ⟨R, h1, h2, _⟩ := sub_pos hI he
    refine ⟨R, h1, fun m hm hmI => ⟨_, ord_le hmI (by omega), fun hc => ?_⟩⟩
    rw [Nat.compare_eq_lt] at hc
    omega
/-- The greatest, and a little more. -/
theorem high_ok {n : Nat} (hn : n < 1000) : ∃ d, Ieee.double.add (FI n) epsW = some d ∧ ∀ m, m ≤ FI n → ∃ o, FloatKind.f64.format.order m d = some o ∧ o ≠ .gt := by
  obtain ⟨d, h1, h2, h3, _⟩ := nn_add (x := FI n) (y := epsW) (a := n) (b := 1) (Nat.le_refl _) eps_FI1 (by omega)
  have hI := FI_in (n + 1) (by omega)
  refine ⟨d, h1, fun m hm => ⟨_, ord_le (by omega) (by omega), fun hc => ?_⟩⟩
  rw [Nat.compare_eq_gt] at hc
  omega

set_option maxRecDepth 100000 in
set_option maxHeartbeats 2000000 in
theorem within_calls {V N cap M n cap2 : Nat} {f h : Nat → Nat} {w : World} (hN : 1 ≤ N) (hN2 : N ≤ 100000) (hf : ∀ i, f i < 1000) (hc : ∀ i, i < N → w.cell? ⟨V, i, none⟩ = some (.float .f64 (FI (f i)))) (hn : 1 ≤ n) (hn2 : n ≤ 100000)
    (hm : ∀ j, j < n → w.cell? ⟨M, j, none⟩ = some (.float .f64 (h j))) (hlo : ∀ j, j < n → minTo (fun i => FI (f i)) (N - 1) ≤ h j) (hhi : ∀ j, j < n → h j ≤ maxTo (fun i => FI (f i)) (N - 1)) (hso : ∀ j, j + 1 < n → h j ≤ h (j + 1)) :
    Calls Tryz.prog 11 #[.slice (some ⟨M, 0, none⟩) n cap2, .slice (some ⟨V, 0, none⟩) N cap] w fun e w' => e = .returned (.bool true) ∧ w = w' := by
  have hg : ∀ i, i < N → (fun i => FI (f i)) i < 2047 * 2 ^ 52 := fun i _ => FI_in _ (by have := hf i; omega)
  have c1 := Lib.hid (minF_calls (cap := cap) hN hN2 hc hg)
  have c2 := Lib.hid (maxF_calls (cap := cap) hN hN2 hc hg)
  obtain ⟨a, _, ea⟩ := minTo_at (fun i => FI (f i)) (N - 1)
  obtain ⟨b, _, eb⟩ := maxTo_at (fun i => FI (f i)) (N - 1)
  rw [ea] at hlo c1
  rw [eb] at hhi c2
  obtain ⟨lo, e1, l2⟩ := low_ok (hf a)
  obtain ⟨hi, e2, u2⟩ := high_ok (hf b)
  have hbI := FI_in (f b) (by have := hf b; omega)
  have f1 := rs e1
  have f2 := ra e2
  unfold epsW at f1 f2
  have HL : Hid (∀ j, j < n → ∃ o, FloatKind.f64.format.order (h j) lo = some o ∧ o ≠ .lt) := Lib.hid fun j hj => l2 _ (hlo j hj) (by have := hhi j hj; omega)
  have HH : Hid (∀ j, j < n → ∃ o, FloatKind.f64.format.order (h j) hi = some o ∧ o ≠ .gt) := Lib.hid fun j hj => u2 _ (hhi j hj)
  have HS : Hid (∀ j, j + 1 < n → FloatKind.f64.format.order (h (j + 1)) (h j) = some (compare (h (j + 1)) (h j)) ∧ h j ≤ h (j + 1)) := Lib.hid fun j hj => ⟨ord_le (by have := hhi (j + 1) hj; omega) (by have := hhi j (by omega); omega), hso j hj⟩
  have Hm := Lib.hid hm
  have hNi : (N : Int) ≤ 100000 := by omega
  have hN0 : ¬ (N : Int) = 0 := by omega
  have hni : (n : Int) ≤ 100000 := by omega
  have hn0 : Hid (1 ≤ n) := Lib.hid hn
  generalize FI (f a) = fa at *
  generalize FI (f b) = fb at *
  clear hN hN2 hf hc hn hn2 hm hlo hhi hso hg ea eb e1 e2 l2 u2 hbI
  go_enter Tryz.func11, Tryz.ntmps11
  go_wp2_with (first
    | (go_at_call 21; refine c1.out.mono ?_; rintro e w1 ⟨rfl, rfl⟩)
    | (go_at_call 22; refine c2.out.mono ?_; rintro e w1 ⟨rfl, rfl⟩))
  go_loop [23] (fun s23 => ∃ j : Nat, s23 = .int .i64 j ∧ j ≤ n) (fun s23 => n - (intOf s23).toNat)
  case atStart => exact ⟨0, rfl, Nat.zero_le _⟩
  case round =>
    obtain ⟨j, rfl, hj⟩ := hrel
    rcases Nat.lt_or_ge j n with hlt | hge
    · have k0 := Hm.out j hlt
      obtain ⟨o1, p1, q1⟩ := HL.out j hlt
      obtain ⟨o2, p2, q2⟩ := HH.out j hlt
      have hji : (j : Int) < (n : Int) := by omega
      rcases Nat.eq_zero_or_pos j with h0 | h0
      · subst h0
        obtain ⟨x, hx⟩ : ∃ x, x = h 0 := ⟨_, rfl⟩
        rw [← hx] at k0 p1 p2
        clear hx
        cases o1 <;> first | exact absurd rfl q1 | skip
        all_goals
          cases o2 <;> first | exact absurd rfl q2 | skip
        all_goals
          clear q1 q2
          go_wp2_with fail
          go_round
          case rel => exact ⟨1, by go_num, by omega⟩
          case measure => simp [intOf]; omega
      · obtain ⟨i, rfl⟩ : ∃ i, j = i + 1 := ⟨j - 1, by omega⟩
        have k1 := Hm.out i (by omega)
        obtain ⟨p3, q3⟩ := HS.out i hlt
        obtain ⟨x, hx⟩ : ∃ x, x = h (i + 1) := ⟨_, rfl⟩
        obtain ⟨y, hy⟩ : ∃ y, y = h i := ⟨_, rfl⟩
        rw [← hx] at k0 p1 p2 p3 q3
        rw [← hy] at k1 p3 q3
        have hii : (0 : Int) < ((i + 1 : Nat) : Int) := by omega
        have hi1 : (((i + 1 : Nat) : Int)) - 1 = (i : Int) := by omega
        have hin : (i : Int) < (n : Int) := by omega
        clear hx hy
        cases o1 <;> first | exact absurd rfl q1 | skip
        all_goals
          cases o2 <;> first | exact absurd rfl q2 | skip
        all_goals
          rcases Nat.lt_or_eq_of_le q3 with h3 | h3
        all_goals
          first | rw [Nat.compare_eq_gt.2 h3] at p3 | rw [Nat.compare_eq_eq.2 h3.symm] at p3
          clear q1 q2 q3 h3
          go_wp2_with fail
          go_round
          case rel => exact ⟨i + 2, by go_num, by omega⟩
          case measure => simp [intOf]; omega
    · obtain rfl : j = n := by omega
      have hjd : decide (0 < j) = true := decide_eq_true (by have := hn0.out; omega)
      go_wp2_with fail
      go_ret
      exact ⟨rfl, rfl⟩
end Go.Proofs.YthcgojhfbcgaiaaGreatDoor
