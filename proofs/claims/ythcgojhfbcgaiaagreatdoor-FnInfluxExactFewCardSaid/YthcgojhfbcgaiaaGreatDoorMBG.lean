/- The numbers of the targeted stream: an error of two in a hundred, quantiles by sixteenths, up to 1200 values. Plain lemmas on floats. -/
import Derived.Test.YthcgojhfbcgaiaaGreatDoorMAC

namespace Go.Proofs.YthcgojhfbcgaiaaGreatDoor
open Ieee

theorem le_of_mul_pos {a b k : Nat} (hk : 0 < k) (h : a * k ≤ b * k) : a ≤ b := Nat.le_of_mul_le_mul_right h hk

theorem mul_up {x y a i b j q l : Nat} (hx : x ≤ FP a i) (hy : y ≤ FP b j) (hi : i < 2 ^ 53) (hj : j < 2 ^ 53) (hl : l < 2 ^ 53) (ha : a ≤ 1000) (hb : b ≤ 1000) (hq : q ≤ 1000)
    (h : i * j * 2 ^ q ≤ l * 2 ^ (a + b)) : rungVal x * rungVal y ≤ rungVal (FP q l) * 2 ^ E74 := by
  obtain ⟨_, e1⟩ := FP_spec hi ha
  obtain ⟨_, e2⟩ := FP_spec hj hb
  obtain ⟨_, e3⟩ := FP_spec hl hq
  refine le_of_mul_pos (Nat.mul_pos (Nat.two_pow_pos (a + b)) (Nat.two_pow_pos q)) ?_
  have h1 := Nat.mul_le_mul (rungVal_mono hx) (rungVal_mono hy)
  refine Nat.le_trans (Nat.mul_le_mul_right _ h1) ?_
  rw [show rungVal (FP a i) * rungVal (FP b j) * (2 ^ (a + b) * 2 ^ q) = (rungVal (FP a i) * 2 ^ a) * (rungVal (FP b j) * 2 ^ b) * 2 ^ q by rw [Nat.pow_add]; ac_rfl, e1, e2,
    show rungVal (FP q l) * 2 ^ E74 * (2 ^ (a + b) * 2 ^ q) = (rungVal (FP q l) * 2 ^ q) * (2 ^ E74 * 2 ^ (a + b)) by ac_rfl, e3]
  rw [show i * 2 ^ E74 * (j * 2 ^ E74) * 2 ^ q = i * j * 2 ^ q * (2 ^ E74 * 2 ^ E74) by ac_rfl, show l * 2 ^ E74 * (2 ^ E74 * 2 ^ (a + b)) = l * 2 ^ (a + b) * (2 ^ E74 * 2 ^ E74) by ac_rfl]
  exact Nat.mul_le_mul_right _ h
theorem mul_dn {x y a i b j q l : Nat} (hx : FP a i ≤ x) (hy : FP b j ≤ y) (hi : i < 2 ^ 53) (hj : j < 2 ^ 53) (hl : l < 2 ^ 53) (ha : a ≤ 1000) (hb : b ≤ 1000) (hq : q ≤ 1000)
    (h : l * 2 ^ (a + b) ≤ i * j * 2 ^ q) : rungVal (FP q l) * 2 ^ E74 ≤ rungVal x * rungVal y := by
  obtain ⟨_, e1⟩ := FP_spec hi ha
  obtain ⟨_, e2⟩ := FP_spec hj hb
  obtain ⟨_, e3⟩ := FP_spec hl hq
  refine le_of_mul_pos (Nat.mul_pos (Nat.two_pow_pos (a + b)) (Nat.two_pow_pos q)) ?_
  have h1 := Nat.mul_le_mul (rungVal_mono hx) (rungVal_mono hy)
  refine Nat.le_trans ?_ (Nat.mul_le_mul_right _ h1)
  rw [show rungVal (FP a i) * rungVal (FP b j) * (2 ^ (a + b) * 2 ^ q) = (rungVal (FP a i) * 2 ^ a) * (rungVal (FP b j) * 2 ^ b) * 2 ^ q by rw [Nat.pow_add]; ac_rfl, e1, e2,
    show rungVal (FP q l) * 2 ^ E74 * (2 ^ (a + b) * 2 ^ q) = (rungVal (FP q l) * 2 ^ q) * (2 ^ E74 * 2 ^ (a + b)) by ac_rfl, e3]
  rw [show i * 2 ^ E74 * (j * 2 ^ E74) * 2 ^ q = i * j * 2 ^ q * (2 ^ E74 * 2 ^ E74) by ac_rfl, show l * 2 ^ E74 * (2 ^ E74 * 2 ^ (a + b)) = l * 2 ^ (a + b) * (2 ^ E74 * 2 ^ E74) by ac_rfl]
  exact Nat.mul_le_mul_right _ h
theorem div_up {x a i b j q l : Nat} (hx : x ≤ FP a i) (hi : i < 2 ^ 53) (hj : j < 2 ^ 53) (hl : l < 2 ^ 53) (ha : a ≤ 1000) (hb : b ≤ 1000) (hq : q ≤ 1000)
    (h : i * 2 ^ (b + q) ≤ l * j * 2 ^ a) : rungVal x * 2 ^ E74 ≤ rungVal (FP q l) * rungVal (FP b j) := by
  obtain ⟨_, e1⟩ := FP_spec hi ha
  obtain ⟨_, e2⟩ := FP_spec hj hb
  obtain ⟨_, e3⟩ := FP_spec hl hq
  refine le_of_mul_pos (Nat.mul_pos (Nat.two_pow_pos a) (Nat.two_pow_pos (b + q))) ?_
  refine Nat.le_trans (Nat.mul_le_mul_right _ (Nat.mul_le_mul_right _ (rungVal_mono hx))) ?_
  rw [show rungVal (FP a i) * 2 ^ E74 * (2 ^ a * 2 ^ (b + q)) = (rungVal (FP a i) * 2 ^ a) * (2 ^ E74 * 2 ^ (b + q)) by ac_rfl, e1,
    show rungVal (FP q l) * rungVal (FP b j) * (2 ^ a * 2 ^ (b + q)) = (rungVal (FP q l) * 2 ^ q) * (rungVal (FP b j) * 2 ^ b) * 2 ^ a by rw [Nat.pow_add]; ac_rfl, e2, e3,
    show i * 2 ^ E74 * (2 ^ E74 * 2 ^ (b + q)) = i * 2 ^ (b + q) * (2 ^ E74 * 2 ^ E74) by ac_rfl, show l * 2 ^ E74 * (j * 2 ^ E74) * 2 ^ a = l * j * 2 ^ a * (2 ^ E74 * 2 ^ E74) by ac_rfl]
  exact Nat.mul_le_mul_right _ h
theorem div_dn {x a i b j q l : Nat} (hx : FP a i ≤ x) (hi : i < 2 ^ 53) (hj : j < 2 ^ 53) (hl : l < 2 ^ 53) (ha : a ≤ 1000) (hb : b ≤ 1000) (hq : q ≤ 1000)
    (h : l * j * 2 ^ a ≤ i * 2 ^ (b + q)) : rungVal (FP q l) * rungVal (FP b j) ≤ rungVal x * 2 ^ E74 := by
  obtain ⟨_, e1⟩ := FP_spec hi ha
  obtain ⟨_, e2⟩ := FP_spec hj hb
  obtain ⟨_, e3⟩ := FP_spec hl hq
  refine le_of_mul_pos (Nat.mul_pos (Nat.two_pow_pos a) (Nat.two_pow_pos (b + q))) ?_
  refine Nat.le_trans ?_ (Nat.mul_le_mul_right _ (Nat.mul_le_mul_right _ (rungVal_mono hx)))
  rw [show rungVal (FP a i) * 2 ^ E74 * (2 ^ a * 2 ^ (b + q)) = (rungVal (FP a i) * 2 ^ a) * (2 ^ E74 * 2 ^ (b + q)) by ac_rfl, e1,
    show rungVal (FP q l) * rungVal (FP b j) * (2 ^ a * 2 ^ (b + q)) = (rungVal (FP q l) * 2 ^ q) * (rungVal (FP b j) * 2 ^ b) * 2 ^ a by rw [Nat.pow_add]; ac_rfl, e2, e3,
    show i * 2 ^ E74 * (2 ^ E74 * 2 ^ (b + q)) = i * 2 ^ (b + q) * (2 ^ E74 * 2 ^ E74) by ac_rfl, show l * 2 ^ E74 * (j * 2 ^ E74) * 2 ^ a = l * j * 2 ^ a * (2 ^ E74 * 2 ^ E74) by ac_rfl]
  exact Nat.mul_le_mul_right _ h

/-- Twice the error. -/
def eps2 : Nat := FP 57 5764607523034235
theorem eps2_mul : double.mul 4611686018427387904 4581421828931458171 = some eps2 := by decide +kernel
theorem eps2_bits : eps2 = 4585925428558828667 := by decide +kernel
theorem FP_lt {p j : Nat} (h : j < 2 ^ 53) (hp : p ≤ 1000) : FP p j < 2047 * 2 ^ 52 := (FP_spec h hp).1
theorem two_FP : (4611686018427387904 : Nat) = FP 0 2 := by decide +kernel
theorem FP_ne {p j : Nat} (h : j < 2 ^ 53) (hp : p ≤ 1000) (h0 : j ≠ 0) : FP p j ≠ 0 := by
  intro e
  have := (FP_spec h hp).2
  rw [e, rungVal_zero, Nat.zero_mul] at this
  have := Nat.mul_pos (Nat.pos_of_ne_zero h0) (Nat.two_pow_pos E74)
  omega

/-- A part of a rank: where it is a multiple of 25 it is met. -/
theorem eps2_exact : ∀ s, s ≤ 48 → double.mul eps2 (FP 4 (400 * s)) = some (FP 4 (16 * s)) := by decide +kernel

/-- WHAT THE STREAM ALLOWS AT A RANK: its whole part, and the whole number above its half. -/
theorem allowed (m j : Nat) (hm : m ≤ 1200) (h1 : 1 ≤ j) (h2 : j ≤ 15) :
    ∃ p G H, double.mul eps2 (FP 4 (16 * m)) = some p ∧ double.div p (FP 4 j) = some G ∧ double.div G 4611686018427387904 = some H ∧
      G < 9218868437227405311 ∧ H < 2047 * 2 ^ 52 ∧
      FP 0 (16 * m / (25 * j)) ≤ G ∧ (G ≤ FP 20 (2 ^ 20 * (16 * m / (25 * j) + 1) - 1)) ∧
      (0 < m → FP 20 (2 ^ 20 * ((8 * m + 25 * j - 1) / (25 * j) - 1) + 1) ≤ H) ∧ H ≤ FP 0 ((8 * m + 25 * j - 1) / (25 * j)) := by
  obtain ⟨c, hc⟩ : ∃ c, c = 16 * m / (25 * j) := ⟨_, rfl⟩
  obtain ⟨d, hd⟩ : ∃ d, d = (8 * m + 25 * j - 1) / (25 * j) := ⟨_, rfl⟩
  have hj0 : 0 < 25 * j := by omega
  have c1 : 25 * j * c ≤ 16 * m := by rw [hc]; exact Nat.mul_div_le _ _
  have c2 : 16 * m < 25 * j * (c + 1) := by rw [hc]; exact Nat.lt_mul_div_succ _ hj0
  have d1 : 25 * j * d ≤ 8 * m + 25 * j - 1 := by rw [hd]; exact Nat.mul_div_le _ _
  have d2 : 8 * m + 25 * j - 1 < 25 * j * (d + 1) := by rw [hd]; exact Nat.lt_mul_div_succ _ hj0
  rw [← hc, ← hd]
  clear hc hd
  rw [Nat.mul_assoc] at c1 c2 d1 d2
  rw [Nat.mul_add, Nat.mul_one] at c2 d2
  have jc : c ≤ j * c := Nat.le_mul_of_pos_left _ h1
  have jd : d ≤ j * d := Nat.le_mul_of_pos_left _ h1
  have jc' : j * c ≤ 768 := by omega
  have jd' : j * d ≤ 400 := by omega
  obtain ⟨K, hK⟩ : ∃ K, K = 2 ^ 20 * (c + 1) - 1 := ⟨_, rfl⟩
  have hK1 : K + 1 = 2 ^ 20 * c + 2 ^ 20 := by omega
  have jK : j * K + j = 2 ^ 20 * (j * c) + 2 ^ 20 * j := by
    have : j * (K + 1) = j * (2 ^ 20 * c + 2 ^ 20) := by rw [hK1]
    rw [Nat.mul_add, Nat.mul_add, Nat.mul_one] at this
    rw [this]
    have e : j * (2 ^ 20 * c) = 2 ^ 20 * (j * c) := by ac_rfl
    have e' : j * 2 ^ 20 = 2 ^ 20 * j := Nat.mul_comm _ _
    omega
  -- the product
  obtain ⟨R, hR, hRu, hRd⟩ := mul_spec (x := eps2) (y := FP 4 (16 * m)) (FP_lt (by omega) (by omega)) (FP_lt (by omega) (by omega))
  have p1 : FP 4 (c * j) ≤ R := hRd _ (mul_dn (Nat.le_refl eps2) (Nat.le_refl _) (by omega) (by omega) (by rw [Nat.mul_comm]; omega) (by omega) (by omega) (by omega) (by rw [Nat.mul_comm c]; omega))
  have p2 : R ≤ FP 24 (j * K) := hRu _ (mul_up (Nat.le_refl eps2) (Nat.le_refl _) (by omega) (by omega) (by omega) (by omega) (by omega) (by omega) (by omega))
  have p3 : R ≤ FP 4 (2 * (j * d)) := by
    rcases Nat.lt_or_ge (16 * m) (50 * (j * d)) with h | h
    · exact hRu _ (mul_up (Nat.le_refl eps2) (Nat.le_refl _) (by omega) (by omega) (by omega) (by omega) (by omega) (by omega) (by omega))
    · obtain ⟨s, rfl⟩ : ∃ s, m = 25 * s := ⟨m / 25, by omega⟩
      have hs := eps2_exact s (by omega)
      rw [show 16 * (25 * s) = 400 * s by omega] at hR
      rw [hs] at hR
      have hlt : FP 4 (16 * s) < 2047 * 2 ^ 52 := FP_lt (by omega) (by omega)
      have e := Option.some.inj hR
      have : R = FP 4 (16 * s) := by omega
      rw [this, show 16 * s = 2 * (j * d) by omega]
      exact Nat.le_refl _
  have hRl : R < 2047 * 2 ^ 52 := Nat.lt_of_le_of_lt p2 (FP_lt (by omega) (by omega))
  rw [Nat.min_eq_left (Nat.le_of_lt hRl)] at hR
  -- the quotient
  obtain ⟨G, hG, hGu, hGd⟩ := div_spec (x := R) (y := FP 4 j) hRl (FP_lt (by omega) (by omega)) (FP_ne (by omega) (by omega) (by omega))
  have g1 : FP 0 c ≤ G := hGd _ (div_dn p1 (by rw [Nat.mul_comm]; omega) (by omega) (by omega) (by omega) (by omega) (by omega) (Nat.le_refl _))
  have g2 : G ≤ FP 20 K := hGu _ (div_up p2 (by omega) (by omega) (by omega) (by omega) (by omega) (by omega) (by rw [Nat.mul_comm K j]; exact Nat.le_refl _))
  have g3 : G ≤ FP 0 (2 * d) := hGu _ (div_up p3 (by omega) (by omega) (by omega) (by omega) (by omega) (by omega) (by rw [Nat.mul_assoc 2 d j, Nat.mul_comm d j]; exact Nat.le_refl _))
  have hGl : G < 2047 * 2 ^ 52 := Nat.lt_of_le_of_lt g2 (FP_lt (by omega) (by omega))
  rw [Nat.min_eq_left (Nat.le_of_lt hGl)] at hG
  have hGm : G < 9218868437227405311 := by
    have a : FP 0 1000 < 9218868437227405311 := by decide +kernel
    have b : FP 20 K ≤ FP 0 1000 := (FP_le (by omega) (by omega) (by omega) (by omega)).2 (by omega)
    omega
  -- its half
  obtain ⟨H, hH, hHu, hHd⟩ := div_spec (x := G) (y := FP 0 2) hGl (FP_lt (by omega) (by omega)) (FP_ne (by omega) (by omega) (by omega))
  have k1 : H ≤ FP 0 d := hHu _ (div_up g3 (by omega) (by omega) (by omega) (by omega) (by omega) (by omega) (by omega))
  have hHl : H < 2047 * 2 ^ 52 := Nat.lt_of_le_of_lt k1 (FP_lt (by omega) (by omega))
  rw [Nat.min_eq_left (Nat.le_of_lt hHl), ← two_FP] at hH
  refine ⟨R, G, H, hR, hG, hH, hGm, hHl, g1, by rw [← hK]; exact g2, fun hm0 => ?_, k1⟩
  obtain ⟨f, hf⟩ : ∃ f, d = f + 1 := ⟨d - 1, by
    have : d ≠ 0 := fun e => by subst e; omega
    omega⟩
  subst hf
  rw [Nat.mul_add, Nat.mul_one] at d1 jd'
  rw [show j * (f + 1) = j * f + j by rw [Nat.mul_add, Nat.mul_one]] at d2
  rw [show f + 1 - 1 = f from rfl]
  have hjf : f ≤ j * f := Nat.le_mul_of_pos_left _ h1
  have jL : j * (2 ^ 20 * f + 1) = 2 ^ 20 * (j * f) + j := by rw [Nat.mul_add, Nat.mul_one]; congr 1; ac_rfl
  have p4 : FP 23 (j * (2 ^ 20 * f + 1)) ≤ R := hRd _ (mul_dn (Nat.le_refl eps2) (Nat.le_refl _) (by omega) (by omega) (by omega) (by omega) (by omega) (by omega) (by omega))
  have g4 : FP 19 (2 ^ 20 * f + 1) ≤ G := hGd _ (div_dn p4 (by omega) (by omega) (by omega) (by omega) (by omega) (by omega) (by rw [Nat.mul_comm (2 ^ 20 * f + 1) j]; exact Nat.le_refl _))
  exact hHd _ (div_dn g4 (by omega) (by omega) (by omega) (by omega) (by omega) (by omega) (by omega))
end Go.Proofs.YthcgojhfbcgaiaaGreatDoor
