/- spec.RankNear: a value that is among the values and whose rank is near enough passes. Condition: the values lie in memory. -/
import Derived.Test.YthcgojhfbcgaiaaSpec
import Derived.Test.YthcgojhfbcgaiaaTgtRank
import Derived.Test.YthcgojhfbcgaiaaTgtClo
import Derived.Test.YthcgojhfbcgaiaaTgtDis
namespace Go.Proofs.Ythcgojhfbcgaiaa
open Go.RowKit Go.Sort Go.Proofs

theorem fN_order (a b : Nat) (ha : a < 2 ^ 40) (hb : b < 2 ^ 40) : FloatKind.f64.format.order (fN a).b (fN b).b = some (compare a b) := by
  rw [fN_b a (by omega), fN_b b (by omega)]; exact fi_order a b ha hb

set_option maxRecDepth 100000 in
set_option maxHeartbeats 1000000 in
theorem ranknear_calls (V cap N n x : Nat) (v : Nat → Nat) (w : World) (hf : FloatsAt w V N (fun i => fN (v i))) (hN : N ≤ 1200) (hn : n < 256) (hv : ∀ i, v i < 2 ^ 40) (hx : x < 2 ^ 40)
    (hmem : x ∈ part v 0 N) (h1 : 1600 * Ckms.rk (part v 0 N) x ≤ 100 * (n % 17) * N + 96 * N + 7900) (h2 : 100 * (n % 17) * N ≤ 1600 * Ckms.rk (part v 0 N) x + 96 * N + 7900) :
    Calls Try.prog 11 #[.slice (some ⟨V, 0, none⟩) N cap, .float .f64 (fN x).b, .int .u8 n, .float .f64 4581421828931458171] w fun e w' => e = .returned (.bool true) ∧ w = w' := by
  obtain ⟨k, hk⟩ : ∃ k, k = n % 17 := ⟨_, rfl⟩
  have hk16 : k ≤ 16 := by omega
  have hpart : Hid (∀ w, Calls Try.prog 10 #[.int .u8 n] w fun e w' => e = .returned (.float .f64 (FX (k : Int))) ∧ w = w') := Lib.hid (by rw [hk]; exact fun w => part_calls n hn w)
  rw [← hk] at h1 h2
  obtain ⟨cnt, hcnt⟩ : ∃ c : Nat → Nat, c = fun j => Ckms.rk (part v 0 j) x := ⟨_, rfl⟩
  obtain ⟨th, hth⟩ : ∃ t : Nat → Bool, t = fun j => decide (x ∈ part v 0 j) := ⟨_, rfl⟩
  have cnt0 : cnt 0 = 0 := by rw [hcnt]; rfl
  have th0 : th 0 = false := by rw [hth]; simp [part]
  have cntS : ∀ j, cnt (j + 1) = cnt j + if v j ≤ x then 1 else 0 := fun j => by
    rw [hcnt]; show Ckms.rk (part v 0 (j + 1)) x = Ckms.rk (part v 0 j) x + _
    rw [part_succ, Ckms.rk_append, Nat.zero_add]
    congr 1
    unfold Ckms.rk
    by_cases h : v j ≤ x <;> simp [h]
  have thS : ∀ j, th (j + 1) = (th j || decide (v j = x)) := fun j => by
    rw [hth]; show decide (x ∈ part v 0 (j + 1)) = _
    rw [part_succ, Nat.zero_add]
    by_cases h : v j = x
    · simp [h]
    · have : ¬ x = v j := fun e => h e.symm
      simp [h, this]
  have cntle : ∀ j, cnt j ≤ j := fun j => by rw [hcnt]; exact Nat.le_trans (Ckms.rk_le _ _) (by rw [part_len]; exact Nat.le_refl _)
  have thN : th N = true := by rw [hth]; simpa using hmem
  obtain ⟨R, hR⟩ : ∃ R, R = cnt N := ⟨_, rfl⟩
  have hRN : R ≤ N := by rw [hR]; exact cntle N
  have hR1 : Ckms.rk (part v 0 N) x = R := by rw [hR, hcnt]
  rw [hR1] at h1 h2
  obtain ⟨p, u, r1, r2, r3, r4, r5⟩ := rank_near N hN
  have hkN : k * N ≤ 16 * N := Nat.mul_le_mul_right N hk16
  obtain ⟨i, hi⟩ : ∃ i : Int, i = 16 * (R : Int) - ((k * N : Nat) : Int) := ⟨_, rfl⟩
  have hmu : 100 * k * N = 100 * (k * N) := by rw [Nat.mul_assoc]
  obtain ⟨o1, o2⟩ := r5 i (by omega) (by omega)
  obtain ⟨nf, hnf⟩ : ∃ nf, nf = floatOfInt .f64 (N : Int) := ⟨_, rfl⟩
  obtain ⟨rf, hrf⟩ : ∃ rf, rf = floatOfInt .f64 (R : Int) := ⟨_, rfl⟩
  obtain ⟨off, hoff⟩ : ∃ off, off = FX i := ⟨_, rfl⟩
  have a1 := run_mul (x := FX (k : Int)) (y := nf) (r := FX ((k * N : Nat) : Int)) (by rw [hnf, FI_FX N (by omega)]; exact FX_mul (by omega) (by omega) (by omega) (by rw [← Nat.mul_assoc, Nat.mul_comm k 16, Nat.mul_assoc]))
  have a2 := run_fsub (x := rf) (y := FX ((k * N : Nat) : Int)) (r := off) (by rw [hrf, FI_FX R (by omega), hoff, FX_sub (by omega) (by omega), hi]; congr 2)
  have a3 := run_mul (x := 4613937818241073152) (y := 4581421828931458171) (r := eps3) eps3_mul
  have a4 := run_mul (x := 13837309855095848960) (y := 4581421828931458171) (r := 2 ^ 63 + eps3) eps3_neg
  have a5 := run_mul (x := eps3) (y := nf) (r := p) (by rw [hnf, FI_FX N (by omega)]; exact r1)
  have a6 := run_mul (x := 2 ^ 63 + eps3) (y := nf) (r := 2 ^ 63 + p) (by rw [hnf, FI_FX N (by omega)]; exact r3)
  have a7 := run_fadd (x := p) (y := 4617315517961601024) (r := u) r2
  have a8 := run_fsub (x := 2 ^ 63 + p) (y := 4617315517961601024) (r := 2 ^ 63 + u) r4
  rw [← hoff] at o1 o2
  obtain ⟨e3n, he3n⟩ : ∃ e, e = 2 ^ 63 + eps3 := ⟨_, rfl⟩
  obtain ⟨pn, hpn⟩ : ∃ e, e = 2 ^ 63 + p := ⟨_, rfl⟩
  obtain ⟨un, hun⟩ : ∃ e, e = 2 ^ 63 + u := ⟨_, rfl⟩
  obtain ⟨e3, he3⟩ : ∃ e, e = eps3 := ⟨_, rfl⟩
  obtain ⟨kN, hkNf⟩ : ∃ e, e = FX ((k * N : Nat) : Int) := ⟨_, rfl⟩
  obtain ⟨kf, hkf⟩ : ∃ e, e = FX (k : Int) := ⟨_, rfl⟩
  rw [← he3n] at a4 a6
  rw [← hpn] at a6 a8
  rw [← hun] at a8 o2
  rw [← he3] at a3 a5
  rw [← hkNf] at a1 a2
  rw [← hkf] at a1 hpart
  have O1 : (FloatKind.f64.format.order off u == some .lt || FloatKind.f64.format.order off u == some .eq) = true := o1
  have O2 : (FloatKind.f64.format.order off un == some .gt || FloatKind.f64.format.order off un == some .eq) = true := o2
  obtain ⟨xb, hxb⟩ : ∃ xb, xb = (fN x).b := ⟨_, rfl⟩
  have hord : Hid (∀ j, FloatKind.f64.format.order (fN (v j)).b xb = some (compare (v j) x)) := Lib.hid fun j => by rw [hxb]; exact fN_order _ _ (hv j) hx
  rw [← hxb]
  have Hf := Lib.hid hf
  have HcS := Lib.hid cntS
  have HtS := Lib.hid thS
  have Hcl := Lib.hid cntle
  have HtN := Lib.hid thN
  have Hc0 := Lib.hid cnt0
  have Ht0 := Lib.hid th0
  have HR := Lib.hid hR
  have Hrf := Lib.hid hrf
  have Hnf := Lib.hid hnf
  rw [hnf] at a1 a5 a6
  have hNi : (N : Int) ≤ 1200 := by omega
  have HRN := Lib.hid hRN
  have HNN := Lib.hid hN
  clear hRN hN hn hk16
  clear hf cntS thS cntle thN cnt0 th0 hR hR1 hcnt hth hk h1 h2 r1 r2 r3 r4 r5 hkN hi hmu o1 o2 hrf hnf hoff he3n hpn hun he3 hkNf hkf hxb hmem hv hx
  go_enter Try.func11, Try.ntmps11
  go_wp2_with fail
  go_loop [9, 10, 17] (fun s9 s10 s17 => ∃ j : Nat, j ≤ N ∧ s17 = .int .i64 j ∧ s9 = .int .i64 (cnt j) ∧ s10 = .bool (th j)) (fun _ _ s17 => N - (intOf s17).toNat)
  case atStart => exact ⟨0, Nat.zero_le _, rfl, by rw [Hc0.out]; rfl, by rw [Ht0.out]⟩
  case round =>
    obtain ⟨j, hj, rfl, rfl, rfl⟩ := hrel
    rcases Nat.lt_or_ge j N with hlt | hge
    · have hcell : w.cell? ⟨V, j, none⟩ = some (.float .f64 (fN (v j)).b) := Hf.out j hlt
      obtain ⟨vb, hvb⟩ : ∃ vb, vb = (fN (v j)).b := ⟨_, rfl⟩
      have ho := hord.out j
      have hS := HcS.out j
      have hT := HtS.out j
      rw [← hvb] at hcell ho
      have hcb := Hcl.out j
      obtain ⟨tj, htj⟩ : ∃ tj, tj = th j := ⟨_, rfl⟩
      obtain ⟨cj, hcj⟩ : ∃ cj, cj = cnt j := ⟨_, rfl⟩
      rw [← htj] at hT
      rw [← hcj] at hS hcb
      rw [← htj, ← hcj]
      have hcb2 : (cj : Int) ≤ 1200 := by omega
      clear hvb htj hcj
      rcases Nat.lt_trichotomy (v j) x with h3 | h3 | h3
      · rw [Nat.compare_eq_lt.2 h3] at ho
        rw [if_pos (by omega)] at hS
        rw [decide_eq_false (by omega), Bool.or_false] at hT
        have HS := Lib.hid hS
        have HT := Lib.hid hT
        clear hS hT h3
        cases tj <;> (
          go_wp2_with fail
          go_round
          case rel => exact ⟨j + 1, by omega, by go_num, by rw [HS.out]; go_num, by rw [HT.out]⟩
          case measure => simp [intOf]; omega)
      · rw [Nat.compare_eq_eq.2 h3] at ho
        rw [if_pos (by omega)] at hS
        rw [decide_eq_true (by omega), Bool.or_true] at hT
        have HS := Lib.hid hS
        have HT := Lib.hid hT
        clear hS hT h3
        cases tj <;> (
          go_wp2_with fail
          go_round
          case rel => exact ⟨j + 1, by omega, by go_num, by rw [HS.out]; go_num, by rw [HT.out]⟩
          case measure => simp [intOf]; omega)
      · rw [Nat.compare_eq_gt.2 h3] at ho
        rw [if_neg (by omega)] at hS
        rw [decide_eq_false (by omega), Bool.or_false] at hT
        have HS := Lib.hid hS
        have HT := Lib.hid hT
        clear hS hT h3
        cases tj <;> (
          go_wp2_with fail
          go_round
          case rel => exact ⟨j + 1, by omega, by go_num, by rw [HS.out, Nat.add_zero], by rw [HT.out]⟩
          case measure => simp [intOf]; omega)
    · obtain rfl : j = N := by omega
      rw [HtN.out, ← HR.out]
      rw [Hrf.out] at a2
      go_wp2_with (go_at_call 10; refine (hpart.out _).mono ?_; rintro e w1 ⟨rfl, rfl⟩)
      go_ret
      exact ⟨rfl, rfl⟩
end Go.Proofs.Ythcgojhfbcgaiaa
