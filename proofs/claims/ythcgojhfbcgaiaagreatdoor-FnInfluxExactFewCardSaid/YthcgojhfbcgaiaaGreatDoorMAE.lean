/- The mean of two centroids lies between them: c + w*(r-c)/W, each step rounded. Plain lemmas. The size of floats of either sign: sums, differences, products, quotients stay floats, and how great they get. Plain lemmas. -/
import Derived.Test.YthcgojhfbcgaiaaGreatDoorMAD

namespace Go.Proofs.YthcgojhfbcgaiaaGreatDoor
open Ieee

def U52 : Nat := 2 ^ 52
theorem U52_eq : U52 = 2 ^ 52 := rfl
theorem rungVal_ge_self (r : Nat) : r ≤ rungVal r := by
  induction r with
  | zero => exact Nat.zero_le _
  | succ r ih => have := rungVal_strict (show r < r + 1 by omega); omega
/-- The step from a rung to the next. -/
theorem rung_step (r : Nat) : rungVal (r + 1) = rungVal r + 1 ∨ ∃ g, rungVal (r + 1) = rungVal r + g ∧ g * U52 ≤ rungVal r := by
  by_cases h : r < 2 ^ 52
  · left
    rcases Nat.lt_or_ge (r + 1) (2 ^ 52) with h1 | h1
    · unfold rungVal; rw [if_pos h1, if_pos h]
    · have e : r + 1 = 2 ^ 52 := by omega
      rw [e]
      have : rungVal (2 ^ 52) = 2 ^ 52 := by unfold rungVal; rw [if_neg (by omega)]
      rw [this]; unfold rungVal; rw [if_pos h]; exact e.symm
  · right
    obtain ⟨e, he⟩ : ∃ e, e = r / 2 ^ 52 - 1 := ⟨_, rfl⟩
    obtain ⟨m, hm⟩ : ∃ m, m = r % 2 ^ 52 := ⟨_, rfl⟩
    have hr : r = e * 2 ^ 52 + (2 ^ 52 + m) := by omega
    have hm2 : m < 2 ^ 52 := by omega
    have v1 : rungVal r = (2 ^ 52 + m) * 2 ^ e := by rw [hr]; exact rungVal_at e _ (by omega) (.inr (by omega))
    have v2 : rungVal (r + 1) = (2 ^ 52 + m + 1) * 2 ^ e := by
      rcases Nat.lt_or_ge (m + 1) (2 ^ 52) with h1 | h1
      · rw [show r + 1 = e * 2 ^ 52 + (2 ^ 52 + m + 1) by omega]; exact rungVal_at e _ (by omega) (.inr (by omega))
      · rw [show r + 1 = (e + 1) * 2 ^ 52 + 2 ^ 52 by omega, rungVal_at (e + 1) _ (by omega) (.inr (Nat.le_refl _)), show 2 ^ 52 + m + 1 = 2 ^ 52 * 2 by omega, Nat.pow_succ 2 e]
        generalize 2 ^ e = x
        omega
    refine ⟨2 ^ e, by rw [v1, v2, Nat.add_mul (2 ^ 52 + m) 1, Nat.one_mul], ?_⟩
    rw [v1, U52_eq, Nat.mul_comm (2 ^ e)]
    exact Nat.mul_le_mul_right _ (by omega)
/-- The greatest rung below. -/
theorem rung_floor (Z : Nat) : ∃ r, rungVal r ≤ Z ∧ Z < rungVal (r + 1) := by
  have h : ∀ n, Z < rungVal n → ∃ r, rungVal r ≤ Z ∧ Z < rungVal (r + 1) := by
    intro n
    induction n with
    | zero => intro h; rw [rungVal_zero] at h; omega
    | succ n ih =>
      intro h
      rcases Nat.lt_or_ge Z (rungVal n) with h1 | h1
      · exact ih h1
      · exact ⟨n, h1, h⟩
  exact h (Z + 1) (by have := rungVal_ge_self (Z + 1); omega)
theorem rung_floor_near (Z : Nat) : ∃ r, rungVal r ≤ Z ∧ Z * U52 ≤ rungVal r * (U52 + 1) := by
  obtain ⟨r, h1, h2⟩ := rung_floor Z
  refine ⟨r, h1, ?_⟩
  rcases rung_step r with h3 | ⟨g, h3, h4⟩
  · have : Z = rungVal r := by omega
    rw [this]; exact Nat.mul_le_mul_left _ (by omega)
  · have h5 : Z ≤ rungVal r + g := by omega
    have h6 := Nat.mul_le_mul_right U52 h5
    rw [Nat.add_mul] at h6
    rw [Nat.mul_add, Nat.mul_one]
    omega
/-- What is rounded is not much greater. -/
theorem round_near {R Z : Nat} (h : ∀ ρ, Z ≤ rungVal ρ → R ≤ ρ) : rungVal R * U52 ≤ Z * (U52 + 1) := by
  obtain ⟨r, h1, h2⟩ := rung_floor Z
  rcases rung_step r with h3 | ⟨g, h3, h4⟩
  · have e : Z = rungVal r := by omega
    have := rungVal_mono (h r (by omega))
    exact Nat.mul_le_mul (by omega) (by omega)
  · have h5 := rungVal_mono (h (r + 1) (by omega))
    rw [h3] at h5
    have h6 := Nat.mul_le_mul_right U52 h5
    rw [Nat.add_mul] at h6
    have h7 := Nat.mul_le_mul_right U52 h1
    rw [Nat.mul_add, Nat.mul_one]
    omega
def E : Nat := 2 ^ E74
theorem E_pos : 0 < E := Nat.two_pow_pos _
theorem rungVal_FI (n : Nat) (h : n < 2 ^ 49) : rungVal (floatOfInt .f64 (n : Int)) = n * E := by
  rw [FI_FX n h, FX_FP]
  have := (FP_spec (p := 4) (j := 16 * n) (by omega) (by omega)).2
  have e : 16 * n * 2 ^ E74 = n * 2 ^ E74 * 2 ^ 4 := by rw [Nat.mul_comm 16 n, Nat.mul_assoc, Nat.mul_assoc, Nat.mul_comm 16]
  rw [e] at this
  exact Nat.mul_right_cancel (Nat.two_pow_pos 4) this
theorem cube_le {u w : Nat} (hw : w * 4 ≤ u) (hu : 1 ≤ u) : w * ((u + 1) * (u + 1) * (u + 1)) ≤ (w + 1) * (u * u * u) := by
  have e : (u + 1) * (u + 1) * (u + 1) = u * u * u + (3 * (u * u) + 3 * u + 1) := by
    simp only [Nat.add_mul, Nat.mul_add, Nat.mul_one, Nat.one_mul]; omega
  rw [e, Nat.mul_add, Nat.add_mul, Nat.one_mul]
  have h1 : u ≤ u * u := Nat.le_mul_of_pos_right _ (by omega)
  by_cases h7 : u < 7
  · have : w ≤ 1 := by omega
    rcases Nat.eq_zero_or_pos w with h0 | h0
    · subst h0; omega
    · obtain rfl : w = 1 := by omega
      have : u = 4 ∨ u = 5 ∨ u = 6 := by omega
      rcases this with rfl | rfl | rfl <;> omega
  · have h2 : 7 * u ≤ u * u := Nat.mul_le_mul_right u (by omega)
    have h3 : 3 * (u * u) + 3 * u + 1 ≤ 4 * (u * u) := by omega
    have h4 := Nat.mul_le_mul_left w h3
    have h5 : w * (4 * (u * u)) = w * 4 * (u * u) := by rw [Nat.mul_assoc]
    have h6 := Nat.mul_le_mul_right (u * u) hw
    have h8 : u * (u * u) = u * u * u := by rw [Nat.mul_assoc]
    omega

/-- THE MEAN OF TWO LIES BETWEEN THEM. -/
theorem mean_step {c r w W : Nat} (hcr : c ≤ r) (hr : r ≤ floatOfInt .f64 ((1000 : Nat) : Int)) (hw : 1 ≤ w) (hW : w + 1 ≤ W) (hW2 : W ≤ 2 ^ 20) :
    ∃ d p q m, double.sub r c = some d ∧ double.mul (floatOfInt .f64 (w : Int)) d = some p ∧ double.div p (floatOfInt .f64 (W : Int)) = some q ∧ double.add c q = some m ∧ c ≤ m ∧ m ≤ r := by
  have hrI : r < 2047 * 2 ^ 52 := by have := FI_lt 1000 (by omega); omega
  have vr : rungVal r ≤ 1000 * E := by rw [← rungVal_FI 1000 (by omega)]; exact rungVal_mono hr
  have vcr := rungVal_mono hcr
  have vw := rungVal_FI w (by omega)
  have vW := rungVal_FI W (by omega)
  have Iw := FI_lt w (by omega)
  have IW := FI_lt W (by omega)
  have hE := E_pos
  have hu : U52 = 4503599627370496 := by rw [U52_eq]
  obtain ⟨d, e1, d1, d2, d3⟩ := sub_pos hrI hcr
  obtain ⟨D, hD⟩ : ∃ D, D = rungVal r - rungVal c := ⟨_, rfl⟩
  rw [← hD] at d2 d3
  have hd := round_near d2
  obtain ⟨p, e2, p2, _⟩ := mul_spec Iw (show d < 2047 * 2 ^ 52 by omega)
  rw [vw] at p2
  have p2' : ∀ ρ, w * rungVal d ≤ rungVal ρ → p ≤ ρ := fun ρ h => p2 ρ (by
    show w * E * rungVal d ≤ rungVal ρ * E
    rw [Nat.mul_right_comm]; exact Nat.mul_le_mul_right _ h)
  have hp := round_near p2'
  have vd : rungVal d ≤ 1000 * E := Nat.le_trans (rungVal_mono d1) vr
  have hpI : p < 2047 * 2 ^ 52 := by
    have h1 : p ≤ floatOfInt .f64 (((2 ^ 20 * 1000 : Nat)) : Int) := p2' _ (by
      rw [rungVal_FI _ (by omega)]
      exact Nat.le_trans (Nat.mul_le_mul (show w ≤ 2 ^ 20 by omega) vd) (by rw [Nat.mul_assoc]; exact Nat.le_refl _))
    have := FI_lt (2 ^ 20 * 1000) (by omega)
    omega
  rw [show min p (2047 * 2 ^ 52) = p by omega] at e2
  have hW0 : floatOfInt .f64 (W : Int) ≠ 0 := fun h => by
    rw [h, rungVal_zero] at vW
    have := Nat.mul_pos (show 0 < W by omega) hE
    omega
  obtain ⟨q, e3, q2, _⟩ := div_spec hpI IW hW0
  rw [vW] at q2
  have q2' : ∀ ρ, rungVal p ≤ rungVal ρ * W → q ≤ ρ := fun ρ h => q2 ρ (by
    show rungVal p * E ≤ rungVal ρ * (W * E)
    rw [← Nat.mul_assoc]; exact Nat.mul_le_mul_right _ h)
  obtain ⟨ρ0, g1, g2⟩ := rung_floor_near D
  have hq : q ≤ ρ0 := q2' ρ0 (by
    have k1 := cube_le (u := U52) (w := w) (by omega) (by omega)
    generalize rungVal p = P at *
    generalize rungVal d = dd at *
    generalize rungVal ρ0 = F at *
    generalize U52 = u at *
    -- P u <= w dd (u+1) ; dd u <= D (u+1) ; D u <= F (u+1)
    have a1 : P * (u * u * u) ≤ w * ((u + 1) * (u + 1) * (u + 1)) * F := by
      calc P * (u * u * u) = P * u * (u * u) := by ac_rfl
        _ ≤ w * dd * (u + 1) * (u * u) := Nat.mul_le_mul_right _ hp
        _ = dd * u * (w * (u + 1) * u) := by ac_rfl
        _ ≤ D * (u + 1) * (w * (u + 1) * u) := Nat.mul_le_mul_right _ hd
        _ = D * u * (w * (u + 1) * (u + 1)) := by ac_rfl
        _ ≤ F * (u + 1) * (w * (u + 1) * (u + 1)) := Nat.mul_le_mul_right _ g2
        _ = w * ((u + 1) * (u + 1) * (u + 1)) * F := by ac_rfl
    have a2 : P * (u * u * u) ≤ F * W * (u * u * u) := by
      refine Nat.le_trans a1 (Nat.le_trans (Nat.mul_le_mul_right F k1) ?_)
      calc (w + 1) * (u * u * u) * F = F * (w + 1) * (u * u * u) := by ac_rfl
        _ ≤ F * W * (u * u * u) := Nat.mul_le_mul_right _ (Nat.mul_le_mul_left _ hW)
    have hu0 : 0 < u := by omega
    exact Nat.le_of_mul_le_mul_right a2 (Nat.mul_pos (Nat.mul_pos hu0 hu0) hu0))
  have vq : rungVal q ≤ D := Nat.le_trans (rungVal_mono hq) g1
  have hqr : q ≤ r := rungVal_le.1 (by omega)
  rw [show min q (2047 * 2 ^ 52) = q by omega] at e3
  obtain ⟨m, e4, m2, m3⟩ := add_pos (show c < 2047 * 2 ^ 52 by omega) (show q < 2047 * 2 ^ 52 by omega)
  have hm : m ≤ r := m2 r (by omega)
  rw [show min m (2047 * 2 ^ 52) = m by omega] at e4
  exact ⟨d, p, q, m, e1, e2, e3, e4, m3 c (by omega), hm⟩
end Go.Proofs.YthcgojhfbcgaiaaGreatDoor

namespace Go.Proofs.YthcgojhfbcgaiaaGreatDoor
open Ieee

/-- x is a number of at most B least units, of either sign. -/
def Mg (x B : Nat) : Prop := ∃ (s : Bool) (m k : Nat), double.read x = .number s m ((k : Int) - 1074) ∧ m * 2 ^ k ≤ B
theorem Mg.mono {x A B : Nat} (h : Mg x A) (hB : A ≤ B) : Mg x B := by
  obtain ⟨s, m, k, h1, h2⟩ := h
  exact ⟨s, m, k, h1, Nat.le_trans h2 hB⟩
theorem Mg.pos {x : Nat} (h : x < 2047 * 2 ^ 52) : Mg x (rungVal x) := by
  obtain ⟨m, k, h1, h2, _⟩ := read_pos h
  exact ⟨false, m, k, h1, Nat.le_of_eq h2⟩
theorem mg_nearest (s : Bool) (M : Nat) (p : Int) (A B ρ : Nat) (hAB : (A : Int) - B = p + 1074) (h : M * 2 ^ A ≤ rungVal ρ * 2 ^ B) (hρ : ρ < 2047 * 2 ^ 52) : Mg (double.nearest s M p) (rungVal ρ) := by
  by_cases h0 : M = 0
  · rw [h0, nearest_zero]
    obtain ⟨m, k, h1, h2, _⟩ := read_word s 0 (by omega)
    exact ⟨s, m, k, h1, by rw [h2, rungVal_zero]; exact Nat.zero_le _⟩
  · rw [nearest_eq _ _ _ h0, inf_double]
    have hr := rung_up s M p h0 A B ρ hAB h
    rw [show min (rungOf s M p) (2047 * 2 ^ 52) = rungOf s M p by omega]
    obtain ⟨m, k, h1, h2, _⟩ := read_word s (rungOf s M p) (by omega)
    exact ⟨s, m, k, h1, by rw [h2]; exact rungVal_mono hr⟩
theorem signed_abs (s : Bool) (m k : Nat) : (signed s m k).natAbs = m * 2 ^ k := by
  rw [signed_eq]; cases s <;> simp [Int.natAbs_mul, Int.natAbs_pow]
theorem mg_sum {A B ρ : Nat} {s t : Bool} {m k n l : Nat} (h2 : m * 2 ^ k ≤ A) (h3 : n * 2 ^ l ≤ B) (hAB : A + B ≤ rungVal ρ) (hρ : ρ < 2047 * 2 ^ 52) (b : Bool) (c : Nat) (hc : c = min k l) :
    Mg (double.nearest b (signed s m (k - c) + signed t n (l - c)).natAbs ((c : Int) - 1074)) (rungVal ρ) := by
  refine mg_nearest b _ _ c 0 ρ (by omega) ?_ hρ
  rw [Nat.pow_zero, Nat.mul_one]
  have e : (signed s m (k - c) + signed t n (l - c)).natAbs ≤ m * 2 ^ (k - c) + n * 2 ^ (l - c) := by
    have := Int.natAbs_add_le (signed s m (k - c)) (signed t n (l - c))
    rw [signed_abs, signed_abs] at this; exact this
  have e2 := Nat.mul_le_mul_right (2 ^ c) e
  rw [Nat.add_mul, Nat.mul_assoc, Nat.mul_assoc, ← Nat.pow_add, ← Nat.pow_add, show k - c + c = k by omega, show l - c + c = l by omega] at e2
  omega
theorem mg_add {x y A B ρ : Nat} (hx : Mg x A) (hy : Mg y B) (hAB : A + B ≤ rungVal ρ) (hρ : ρ < 2047 * 2 ^ 52) : ∃ r, double.add x y = some r ∧ Mg r (rungVal ρ) := by
  obtain ⟨s, m, k, h1, h2⟩ := hx
  obtain ⟨t, n, l, h3, h4⟩ := hy
  unfold Format.add
  rw [h1, h3]
  simp only [Datum.sum, Option.map_some]
  obtain ⟨c, hc⟩ : ∃ c : Nat, c = min k l := ⟨_, rfl⟩
  rw [show min ((k : Int) - 1074) ((l : Int) - 1074) = (c : Int) - 1074 by omega, show ((k : Int) - 1074 - ((c : Int) - 1074)).toNat = k - c by omega,
    show ((l : Int) - 1074 - ((c : Int) - 1074)).toNat = l - c by omega]
  exact ⟨_, rfl, mg_sum h2 h4 hAB hρ _ c hc⟩
theorem mg_sub {x y A B ρ : Nat} (hx : Mg x A) (hy : Mg y B) (hAB : A + B ≤ rungVal ρ) (hρ : ρ < 2047 * 2 ^ 52) : ∃ r, double.sub x y = some r ∧ Mg r (rungVal ρ) := by
  obtain ⟨s, m, k, h1, h2⟩ := hx
  obtain ⟨t, n, l, h3, h4⟩ := hy
  unfold Format.sub
  rw [h1, h3]
  simp only [Datum.sum, Datum.opposite, Option.map_some]
  obtain ⟨c, hc⟩ : ∃ c : Nat, c = min k l := ⟨_, rfl⟩
  rw [show min ((k : Int) - 1074) ((l : Int) - 1074) = (c : Int) - 1074 by omega, show ((k : Int) - 1074 - ((c : Int) - 1074)).toNat = k - c by omega,
    show ((l : Int) - 1074 - ((c : Int) - 1074)).toNat = l - c by omega]
  exact ⟨_, rfl, mg_sum h2 h4 hAB hρ _ c hc⟩
theorem mg_mul {x y A B ρ : Nat} (hx : Mg x A) (hy : Mg y B) (hAB : A * B ≤ rungVal ρ * 2 ^ E74) (hρ : ρ < 2047 * 2 ^ 52) : ∃ r, double.mul x y = some r ∧ Mg r (rungVal ρ) := by
  obtain ⟨s, m, k, h1, h2⟩ := hx
  obtain ⟨t, n, l, h3, h4⟩ := hy
  unfold Format.mul
  rw [h1, h3]
  simp only [Datum.product, Option.map_some]
  refine ⟨_, rfl, mg_nearest _ _ _ (k + l) E74 ρ (by have := E74_eq; omega) ?_ hρ⟩
  have e5 : m * n * 2 ^ (k + l) = m * 2 ^ k * (n * 2 ^ l) := by rw [Nat.pow_add]; ac_rfl
  rw [e5]
  exact Nat.le_trans (Nat.mul_le_mul h2 h4) hAB
/-- A quotient of either sign, against a bound. -/
theorem div_rung (b : Bool) {m n k l mo ρ : Nat} (h0 : m ≠ 0) (hn0 : n ≠ 0) (hmo : mo = double.fractionBits + 2 + n.log2 - m.log2) (h : m * 2 ^ k * 2 ^ E74 ≤ rungVal ρ * (n * 2 ^ l)) :
    2 * (m * 2 ^ mo / n) + (m * 2 ^ mo % n != 0).toNat ≠ 0 ∧ rungOf b (2 * (m * 2 ^ mo / n) + (m * 2 ^ mo % n != 0).toNat) ((k : Int) - 1074 - ((l : Int) - 1074) - (mo : Int) - 1) ≤ ρ := by
  have hmo' : 54 + n.log2 ≤ m.log2 + mo := by rw [hmo]; show 54 + n.log2 ≤ m.log2 + (52 + 2 + n.log2 - m.log2); omega
  have hq : 2 ^ 53 ≤ m * 2 ^ mo / n := by
    rw [Nat.le_div_iff_mul_le (by omega)]
    have a : n < 2 ^ (n.log2 + 1) := Nat.lt_log2_self
    have b : 2 ^ m.log2 ≤ m := Nat.log2_self_le h0
    refine Nat.le_trans (Nat.mul_le_mul_left _ (Nat.le_of_lt a)) (Nat.le_trans ?_ (Nat.mul_le_mul_right _ b))
    rw [← Nat.pow_add, ← Nat.pow_add]
    exact Nat.pow_le_pow_right (by omega) (by omega)
  have hQ0 : 2 * (m * 2 ^ mo / n) + (m * 2 ^ mo % n != 0).toNat ≠ 0 := by omega
  have E := E74_eq
  -- the bound in units of the quotient's last place: 'A - B' as rung_up wants it
  have place : ((k + E74 : Nat) : Int) - ((l + mo + 1 : Nat) : Int) = ((k : Int) - 1074 - ((l : Int) - 1074) - (mo : Int) - 1) + 1074 := by omega
  refine ⟨hQ0, ?_⟩
  obtain ⟨t, e, hρ, ht⟩ := rungVal_digits ρ
  rw [hρ] at h
  rcases Nat.lt_or_ge (e + (l + mo + 1)) (k + E74) with hlt | hge
  · -- the bound has a finer place than the quotient's unit: it would be too small
    exfalso
    obtain ⟨g, hg⟩ : ∃ g, k + E74 = g + (e + (l + mo + 1)) := ⟨k + E74 - (e + (l + mo + 1)), by omega⟩
    have a := Nat.mul_le_mul_right (2 ^ mo) h
    have b : m * 2 ^ k * 2 ^ E74 * 2 ^ mo = m * 2 ^ mo * 2 ^ (g + 1 + (e + (l + mo))) := by
      rw [show m * 2 ^ k * 2 ^ E74 * 2 ^ mo = m * 2 ^ mo * (2 ^ k * 2 ^ E74) by ac_rfl, ← Nat.pow_add, show k + E74 = g + 1 + (e + (l + mo)) by omega]
    have c : t * 2 ^ e * (n * 2 ^ l) * 2 ^ mo = t * n * 2 ^ (e + (l + mo)) := by
      rw [Nat.pow_add, Nat.pow_add]; ac_rfl
    rw [b, c, Nat.pow_add, ← Nat.mul_assoc] at a
    have d := Nat.le_of_mul_le_mul_right a (Nat.two_pow_pos _)
    have f := Nat.div_mul_le_self (m * 2 ^ mo) n
    have g2 := Nat.mul_le_mul_right n hq
    have g3 : 2 ^ 53 * n ≤ m * 2 ^ mo := Nat.le_trans g2 f
    have g4 : m * 2 ^ mo ≤ m * 2 ^ mo * 2 ^ (g + 1) := Nat.le_mul_of_pos_right _ (Nat.two_pow_pos _)
    have g5 := Nat.mul_lt_mul_of_pos_right ht (show 0 < n by omega)
    omega
  · obtain ⟨g, hg⟩ : ∃ g, e + (l + mo + 1) = g + (k + E74) := ⟨e + (l + mo + 1) - (k + E74), by omega⟩
    refine rung_up _ _ _ hQ0 (k + E74) (l + mo + 1) ρ place ?_
    rw [hρ, Nat.mul_assoc t, ← Nat.pow_add, hg, Nat.pow_add 2 g, ← Nat.mul_assoc]
    refine Nat.mul_le_mul_right _ ((sticky (m * 2 ^ mo) n t g (by omega) hq ht).1 ?_)
    have a := Nat.mul_le_mul_right (2 ^ (mo + 1)) h
    have b : m * 2 ^ k * 2 ^ E74 * 2 ^ (mo + 1) = 2 * (m * 2 ^ mo) * 2 ^ (k + E74) := by rw [Nat.pow_add 2 k, Nat.pow_succ]; ac_rfl
    have c : t * 2 ^ e * (n * 2 ^ l) * 2 ^ (mo + 1) = t * n * 2 ^ (e + (l + mo + 1)) := by
      rw [show e + (l + mo + 1) = e + l + (mo + 1) by omega, Nat.pow_add (m := e + l), Nat.pow_add (m := e)]; ac_rfl
    rw [b, c, hg, Nat.pow_add 2 g, ← Nat.mul_assoc (t * n)] at a
    have d := Nat.le_of_mul_le_mul_right a (Nat.two_pow_pos _)
    rw [show t * 2 ^ g * n = t * n * 2 ^ g by ac_rfl]
    exact d
theorem mg_div {x y A b ρ : Nat} (hx : Mg x A) (hy : ∃ (t : Bool) (n l : Nat), double.read y = .number t n ((l : Int) - 1074) ∧ b ≤ n * 2 ^ l) (hb : 0 < b) (hAB : A * 2 ^ E74 ≤ rungVal ρ * b) (hρ : ρ < 2047 * 2 ^ 52) : ∃ r, double.div x y = some r ∧ Mg r (rungVal ρ) := by
  obtain ⟨s, m, k, h1, h2⟩ := hx
  obtain ⟨t, n, l, h3, h4⟩ := hy
  have hn0 : n ≠ 0 := fun h => by rw [h] at h4; omega
  unfold Format.div
  rw [h1, h3]
  simp only [Datum.quotient, if_neg hn0, Option.map_some]
  obtain ⟨mo, hmo⟩ : ∃ mo, mo = double.fractionBits + 2 + n.log2 - m.log2 := ⟨_, rfl⟩
  rw [← hmo]
  refine ⟨_, rfl, ?_⟩
  show Mg (double.nearest _ _ _) _
  by_cases h0 : m = 0
  · rw [h0]; simp only [Nat.zero_shiftLeft, Nat.zero_div, Nat.zero_mod]
    rw [show (2 * 0 + ((0 : Nat) != 0).toNat) = 0 from rfl, nearest_zero]
    obtain ⟨m', k', e1, e2, _⟩ := read_word (s != t) 0 (by omega)
    exact ⟨_, m', k', e1, by rw [e2, rungVal_zero]; exact Nat.zero_le _⟩
  · rw [Nat.shiftLeft_eq]
    have hle : m * 2 ^ k * 2 ^ E74 ≤ rungVal ρ * (n * 2 ^ l) := Nat.le_trans (Nat.mul_le_mul_right _ h2) (Nat.le_trans hAB (Nat.mul_le_mul_left _ h4))
    have hd := div_rung (s != t) (k := k) (l := l) h0 hn0 hmo hle
    generalize 2 * (m * 2 ^ mo / n) + (m * 2 ^ mo % n != 0).toNat = Q at hd ⊢
    generalize (k : Int) - 1074 - ((l : Int) - 1074) - (mo : Int) - 1 = pl at hd ⊢
    obtain ⟨hQ, hd⟩ := hd
    have e9 : (s ^^ t) = (s != t) := by cases s <;> cases t <;> rfl
    rw [nearest_eq _ _ _ hQ, inf_double]
    first | rw [e9] | skip
    generalize hG : rungOf (s != t) Q pl = G at hd ⊢
    rw [show min G (2047 * 2 ^ 52) = G by omega]
    obtain ⟨m', k', e1, e2, _⟩ := read_word (s != t) G (by omega)
    exact ⟨_, m', k', e1, by rw [e2]; exact rungVal_mono hd⟩
end Go.Proofs.YthcgojhfbcgaiaaGreatDoor
