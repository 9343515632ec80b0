/- IEEE doubles: products and quotients of numbers that are not negative, against representable bounds. Plain lemmas. The walk's laws for floats that the kit lacks: a store of a float, of a map; sums, differences, products and the order of floats that are whole numbers. No condition beside those named. -/
import Derived.Test.YthcgojhfbcgaiaaGreatDoorMAB
import Derived.WalkKit
import Derived.WalkSpells
import Derived.WalkLawsBesides
import Derived.Laws.EntriesVeiled

namespace Go.Proofs.YthcgojhfbcgaiaaGreatDoor
open Ieee

/-- (2 ^ 1074, behind a name.) -/
def E74 : Nat := 1074
theorem E74_eq : E74 = 1074 := rfl
attribute [irreducible] E74

theorem rungVal_strict {r s : Nat} (h : r < s) : rungVal r < rungVal s := by
  by_cases hs : s < 2 ^ 52
  · unfold rungVal; rw [if_pos hs, if_pos (by omega)]; exact h
  · obtain ⟨k, t, hk, ht1, ht2⟩ : ∃ k t, s = k * 2 ^ 52 + t ∧ 2 ^ 52 ≤ t ∧ t < 2 ^ 53 := ⟨s / 2 ^ 52 - 1, s - (s / 2 ^ 52 - 1) * 2 ^ 52, by omega, by omega, by omega⟩
    rw [hk, rungVal_at k t ht2 (Or.inr ht1)]
    by_cases hr : (k + 1) * 2 ^ 52 ≤ r
    · obtain ⟨u, hu⟩ : ∃ u, r = k * 2 ^ 52 + u := ⟨r - k * 2 ^ 52, by omega⟩
      rw [hu, rungVal_at k u (by omega) (Or.inr (by omega))]
      exact Nat.mul_lt_mul_of_pos_right (by omega) (Nat.two_pow_pos _)
    · exact Nat.lt_of_lt_of_le (rungVal_lt k r (by omega)) (Nat.mul_le_mul_right _ ht1)
theorem rungVal_mono {r s : Nat} (h : r ≤ s) : rungVal r ≤ rungVal s := by
  rcases Nat.lt_or_eq_of_le h with h | h
  · exact Nat.le_of_lt (rungVal_strict h)
  · rw [h]; exact Nat.le_refl _
theorem rungVal_le {r s : Nat} : rungVal r ≤ rungVal s ↔ r ≤ s :=
  ⟨fun h => by rcases Nat.lt_or_ge s r with h' | h'
               · exact absurd (rungVal_strict h') (by omega)
               · exact h', rungVal_mono⟩
theorem rungVal_pos {r : Nat} (h : r ≠ 0) : 0 < rungVal r := by
  have := rungVal_strict (show 0 < r by omega); omega
theorem rungVal_zero : rungVal 0 = 0 := by unfold rungVal; rw [if_pos (by omega)]

/-- A word that is not negative is its rung. -/
theorem word_pos (r : Nat) : double.word false r = r := by unfold Format.word; simp
theorem read_pos {x : Nat} (h : x < 2047 * 2 ^ 52) : ∃ m k : Nat, double.read x = .number false m ((k : Int) - 1074) ∧ m * 2 ^ k = rungVal x ∧ m < 2 ^ 53 := by
  have := read_word false x h
  rwa [word_pos] at this
theorem Fz_pos {x : Nat} (h : x < 2047 * 2 ^ 52) : Fz x (rungVal x) := by
  obtain ⟨m, k, h1, h2, h3⟩ := read_pos h
  exact ⟨m, k, by rw [h1, decide_eq_false (show ¬ ((rungVal x : Nat) : Int) < 0 by omega)], by rw [h2]; rfl, h3⟩
theorem order_pos {x y : Nat} (hx : x < 2047 * 2 ^ 52) (hy : y < 2047 * 2 ^ 52) : double.order x y = some (compare x y) := by
  rw [order_Fz (Fz_pos hx) (Fz_pos hy)]
  congr 1
  simp only [compare, compareOfLessAndEq]
  by_cases h1 : x < y
  · rw [if_pos h1, if_pos (by have := rungVal_strict h1; omega)]
  · rw [if_neg h1]
    by_cases h2 : x = y
    · subst h2; rw [if_neg (by omega), if_pos rfl, if_pos rfl]
    · have := rungVal_strict (show y < x by omega)
      rw [if_neg (by omega), if_neg (by omega), if_neg h2]

/-- j / 2 ^ p. -/
def FP (p j : Nat) : Nat := double.nearest false j (-p)
theorem FP_spec {p j : Nat} (h : j < 2 ^ 53) (hp : p ≤ 1000) : FP p j < 2047 * 2 ^ 52 ∧ rungVal (FP p j) * 2 ^ p = j * 2 ^ E74 := by
  unfold FP
  by_cases h0 : j = 0
  · subst h0; rw [nearest_zero, word_pos, rungVal_zero]; omega
  · have := rungOf_small false j (1074 - p) h0 h (by omega)
    rw [show (((1074 - p : Nat) : Int) - 1074) = -(p : Int) by omega] at this
    rw [nearest_eq _ _ _ h0, word_pos, inf_double, Nat.min_eq_left (Nat.le_of_lt this.1)]
    refine ⟨this.1, ?_⟩
    rw [this.2, Nat.mul_assoc, ← Nat.pow_add, show 1074 - p + p = E74 by have := E74_eq; omega]
theorem FX_FP (j : Nat) : FX j = FP 4 j := by
  unfold FX FP; rw [decide_eq_false (show ¬ ((j : Nat) : Int) < 0 by omega)]; rfl
theorem FP_le {p j q l : Nat} (hj : j < 2 ^ 53) (hp : p ≤ 1000) (hl : l < 2 ^ 53) (hq : q ≤ 1000) : FP p j ≤ FP q l ↔ j * 2 ^ q ≤ l * 2 ^ p := by
  obtain ⟨_, h1⟩ := FP_spec hj hp
  obtain ⟨_, h2⟩ := FP_spec hl hq
  rw [← rungVal_le]
  have e : ∀ a b : Nat, a ≤ b ↔ a * (2 ^ p * 2 ^ q) ≤ b * (2 ^ p * 2 ^ q) := fun a b =>
    ⟨fun h => Nat.mul_le_mul_right _ h, fun h => Nat.le_of_mul_le_mul_right h (Nat.mul_pos (Nat.two_pow_pos _) (Nat.two_pow_pos _))⟩
  rw [e, show rungVal (FP p j) * (2 ^ p * 2 ^ q) = j * 2 ^ q * 2 ^ E74 by rw [← Nat.mul_assoc, h1]; ac_rfl,
    show rungVal (FP q l) * (2 ^ p * 2 ^ q) = l * 2 ^ p * 2 ^ E74 by rw [Nat.mul_comm (2 ^ p), ← Nat.mul_assoc, h2]; ac_rfl]
  exact ⟨fun h => Nat.le_of_mul_le_mul_right h (Nat.two_pow_pos _), fun h => Nat.mul_le_mul_right _ h⟩

/-- A PRODUCT AGAINST REPRESENTABLE BOUNDS. -/
theorem mul_spec {x y : Nat} (hx : x < 2047 * 2 ^ 52) (hy : y < 2047 * 2 ^ 52) : ∃ R, double.mul x y = some (min R (2047 * 2 ^ 52)) ∧
    (∀ ρ, rungVal x * rungVal y ≤ rungVal ρ * 2 ^ E74 → R ≤ ρ) ∧ (∀ ρ, rungVal ρ * 2 ^ E74 ≤ rungVal x * rungVal y → ρ ≤ R) := by
  obtain ⟨m, k, h1, h2, _⟩ := read_pos hx
  obtain ⟨n, l, h3, h4, _⟩ := read_pos hy
  unfold Format.mul
  rw [h1, h3]
  simp only [Datum.product, Option.map_some]
  have e5 : m * n * 2 ^ (k + l) = rungVal x * rungVal y := by rw [← h2, ← h4, Nat.pow_add]; ac_rfl
  show ∃ R, some (double.nearest _ _ _) = _ ∧ _
  by_cases h0 : m * n = 0
  · refine ⟨0, by rw [h0, nearest_zero]; rfl, fun _ _ => Nat.zero_le _, fun ρ h => ?_⟩
    rw [← e5, h0, Nat.zero_mul] at h
    rcases Nat.eq_zero_or_pos ρ with h | h'
    · omega
    · have := Nat.mul_pos (rungVal_pos (show ρ ≠ 0 by omega)) (Nat.two_pow_pos E74); omega
  · refine ⟨_, by rw [nearest_eq _ _ _ h0, inf_double, Bool.xor_false, word_pos], fun ρ h => ?_, fun ρ h => ?_⟩
    · exact rung_up _ _ _ h0 (k + l) E74 ρ (by have := E74_eq; omega) (by rw [e5]; exact h)
    · exact rung_down _ _ _ h0 (k + l) E74 ρ (by have := E74_eq; omega) (by rw [e5]; exact h)

/-- A quotient to so many digits, with a last one that tells whether anything was left over, lies to a bound of few digits as the true quotient does. -/
theorem sticky (D n t e : Nat) (hn : 0 < n) (hq : 2 ^ 53 ≤ D / n) (ht : t < 2 ^ 53) :
    (2 * D ≤ t * 2 ^ e * n → 2 * (D / n) + (D % n != 0).toNat ≤ t * 2 ^ e) ∧ (t * 2 ^ e * n ≤ 2 * D → t * 2 ^ e ≤ 2 * (D / n) + (D % n != 0).toNat) := by
  have hD := Nat.div_add_mod D n
  have hm := Nat.mod_lt D hn
  have hb : (D % n != 0).toNat ≤ 1 := by cases (D % n != 0) <;> decide
  have hb0 : D % n = 0 → (D % n != 0).toNat = 0 := fun h => by rw [h]; rfl
  have hb1 : D % n ≠ 0 → (D % n != 0).toNat = 1 := fun h => by rw [bne_iff_ne.2 h]; rfl
  generalize hs : (D % n != 0).toNat = s at *
  generalize hQ : D / n = Q at *
  have key : 2 ^ 54 ≤ t * 2 ^ e → ∃ u, t * 2 ^ e = 2 * u := fun h => by
    have he : e ≠ 0 := fun h0 => by subst h0; omega
    obtain ⟨e', rfl⟩ : ∃ e', e = e' + 1 := ⟨e - 1, by omega⟩
    exact ⟨t * 2 ^ e', by rw [Nat.pow_succ]; ac_rfl⟩
  constructor
  · intro h
    have h1 : n * (2 * Q) ≤ t * 2 ^ e * n := by rw [← hD] at h; have : n * (2 * Q) = 2 * (n * Q) := by ac_rfl
                                                omega
    have h2 : 2 * Q ≤ t * 2 ^ e := by rw [Nat.mul_comm n] at h1; exact Nat.le_of_mul_le_mul_right h1 hn
    obtain ⟨u, hu⟩ := key (by omega)
    rw [hu] at h h2 ⊢
    by_cases hz : D % n = 0
    · rw [hb0 hz]; omega
    · rcases Nat.lt_or_eq_of_le (show Q ≤ u by omega) with h3 | h3
      · omega
      · exfalso
        subst h3
        have : 2 * (n * Q) = 2 * Q * n := by ac_rfl
        omega
  · intro h
    by_cases hsm : t * 2 ^ e < 2 ^ 54
    · omega
    · obtain ⟨u, hu⟩ := key (by omega)
      rw [hu] at h ⊢
      have h2 : u ≤ Q := by
        rcases Nat.lt_or_ge Q u with h' | h'
        · exfalso
          have a := Nat.mul_le_mul_left n (show Q + 1 ≤ u from h')
          rw [Nat.mul_add, Nat.mul_one] at a
          have : 2 * (n * u) = 2 * u * n := by ac_rfl
          omega
        · exact h'
      omega

/-- A rung's magnitude in few digits. -/
theorem rungVal_digits (ρ : Nat) : ∃ t e, rungVal ρ = t * 2 ^ e ∧ t < 2 ^ 53 := by
  unfold rungVal
  by_cases h : ρ < 2 ^ 52
  · rw [if_pos h]; exact ⟨ρ, 0, by simp, by omega⟩
  · rw [if_neg h]; exact ⟨_, _, rfl, by omega⟩

/-- A QUOTIENT AGAINST REPRESENTABLE BOUNDS. -/
theorem div_spec {x y : Nat} (hx : x < 2047 * 2 ^ 52) (hy : y < 2047 * 2 ^ 52) (hy0 : y ≠ 0) : ∃ R, double.div x y = some (min R (2047 * 2 ^ 52)) ∧
    (∀ ρ, rungVal x * 2 ^ E74 ≤ rungVal ρ * rungVal y → R ≤ ρ) ∧ (∀ ρ, rungVal ρ * rungVal y ≤ rungVal x * 2 ^ E74 → ρ ≤ R) := by
  obtain ⟨m, k, h1, h2, _⟩ := read_pos hx
  obtain ⟨n, l, h3, h4, _⟩ := read_pos hy
  have hn0 : n ≠ 0 := fun h => by have := rungVal_pos hy0; rw [← h4, h] at this; omega
  unfold Format.div
  rw [h1, h3]
  simp only [Datum.quotient, if_neg hn0, Option.map_some]
  obtain ⟨mo, hmo⟩ : ∃ mo, mo = double.fractionBits + 2 + n.log2 - m.log2 := ⟨_, rfl⟩
  rw [← hmo]
  show ∃ R, some (double.nearest _ _ _) = _ ∧ _
  by_cases h0 : m = 0
  · have hx0 : rungVal x = 0 := by rw [← h2, h0, Nat.zero_mul]
    refine ⟨0, by rw [h0]; simp only [Nat.zero_shiftLeft, Nat.zero_div, Nat.zero_mod]; rw [show (2 * 0 + ((0 : Nat) != 0).toNat) = 0 from rfl, nearest_zero]; rfl, fun _ _ => Nat.zero_le _, fun ρ h => ?_⟩
    rw [hx0, Nat.zero_mul] at h
    rcases Nat.eq_zero_or_pos ρ with h | h'
    · omega
    · have := Nat.mul_pos (rungVal_pos (show ρ ≠ 0 by omega)) (rungVal_pos hy0); omega
  · rw [Nat.shiftLeft_eq]
    have hmo' : 54 + n.log2 ≤ m.log2 + mo := by rw [hmo]; show 54 + n.log2 ≤ m.log2 + (52 + 2 + n.log2 - m.log2); omega
    have hq : 2 ^ 53 ≤ m * 2 ^ mo / n := by
      rw [Nat.le_div_iff_mul_le (by omega)]
      have a : n < 2 ^ (n.log2 + 1) := Nat.lt_log2_self
      have b : 2 ^ m.log2 ≤ m := Nat.log2_self_le h0
      refine Nat.le_trans (Nat.mul_le_mul_left _ (Nat.le_of_lt a)) (Nat.le_trans ?_ (Nat.mul_le_mul_right _ b))
      rw [← Nat.pow_add, ← Nat.pow_add]
      exact Nat.pow_le_pow_right (by omega) (by omega)
    have hQ0 : 2 * (m * 2 ^ mo / n) + (m * 2 ^ mo % n != 0).toNat ≠ 0 := by omega
    have E := E74_eq
    -- the bound in units of the quotient's last place: 'A - B' as rung_up wants it
    have place : ((k + E74 : Nat) : Int) - ((l + mo + 1 : Nat) : Int) = ((k : Int) - 1074 - ((l : Int) - 1074) - (mo : Int) - 1) + 1074 := by omega
    refine ⟨_, by rw [nearest_eq _ _ _ hQ0, inf_double, Bool.xor_false, word_pos], fun ρ h => ?_, fun ρ h => ?_⟩
    all_goals
      obtain ⟨t, e, hρ, ht⟩ := rungVal_digits ρ
      rw [← h2, ← h4, hρ] at h
    · -- above
      rcases Nat.lt_or_ge (e + (l + mo + 1)) (k + E74) with hlt | hge
      · -- the bound has a finer place than the quotient's unit: it would be too small
        exfalso
        obtain ⟨g, hg⟩ : ∃ g, k + E74 = g + (e + (l + mo + 1)) := ⟨k + E74 - (e + (l + mo + 1)), by omega⟩
        have a := Nat.mul_le_mul_right (2 ^ mo) h
        have b : m * 2 ^ k * 2 ^ E74 * 2 ^ mo = m * 2 ^ mo * 2 ^ (g + 1 + (e + (l + mo))) := by
          rw [show m * 2 ^ k * 2 ^ E74 * 2 ^ mo = m * 2 ^ mo * (2 ^ k * 2 ^ E74) by ac_rfl, ← Nat.pow_add, show k + E74 = g + 1 + (e + (l + mo)) by omega]
        have c : t * 2 ^ e * (n * 2 ^ l) * 2 ^ mo = t * n * 2 ^ (e + (l + mo)) := by
          rw [Nat.pow_add, Nat.pow_add]; ac_rfl
        rw [b, c, Nat.pow_add, ← Nat.mul_assoc] at a
        have d := Nat.le_of_mul_le_mul_right a (Nat.two_pow_pos _)
        have f := Nat.div_mul_le_self (m * 2 ^ mo) n
        have g2 := Nat.mul_le_mul_right n hq
        have g3 : 2 ^ 53 * n ≤ m * 2 ^ mo := Nat.le_trans g2 f
        have g4 : m * 2 ^ mo ≤ m * 2 ^ mo * 2 ^ (g + 1) := Nat.le_mul_of_pos_right _ (Nat.two_pow_pos _)
        have g5 := Nat.mul_lt_mul_of_pos_right ht (show 0 < n by omega)
        omega
      · obtain ⟨g, hg⟩ : ∃ g, e + (l + mo + 1) = g + (k + E74) := ⟨e + (l + mo + 1) - (k + E74), by omega⟩
        refine rung_up _ _ _ hQ0 (k + E74) (l + mo + 1) ρ place ?_
        rw [hρ, Nat.mul_assoc t, ← Nat.pow_add, hg, Nat.pow_add 2 g, ← Nat.mul_assoc]
        refine Nat.mul_le_mul_right _ ((sticky (m * 2 ^ mo) n t g (by omega) hq ht).1 ?_)
        have a := Nat.mul_le_mul_right (2 ^ (mo + 1)) h
        have b : m * 2 ^ k * 2 ^ E74 * 2 ^ (mo + 1) = 2 * (m * 2 ^ mo) * 2 ^ (k + E74) := by rw [Nat.pow_add 2 k, Nat.pow_succ]; ac_rfl
        have c : t * 2 ^ e * (n * 2 ^ l) * 2 ^ (mo + 1) = t * n * 2 ^ (e + (l + mo + 1)) := by
          rw [show e + (l + mo + 1) = e + l + (mo + 1) by omega, Nat.pow_add (m := e + l), Nat.pow_add (m := e)]; ac_rfl
        rw [b, c, hg, Nat.pow_add 2 g, ← Nat.mul_assoc (t * n)] at a
        have d := Nat.le_of_mul_le_mul_right a (Nat.two_pow_pos _)
        rw [show t * 2 ^ g * n = t * n * 2 ^ g by ac_rfl]
        exact d
    · -- below
      rcases Nat.lt_or_ge (e + (l + mo + 1)) (k + E74) with hlt | hge
      · refine rung_down _ _ _ hQ0 (k + E74) (l + mo + 1) ρ place ?_
        rw [hρ]
        obtain ⟨g, hg⟩ : ∃ g, k + E74 = g + (e + (l + mo + 1)) := ⟨k + E74 - (e + (l + mo + 1)), by omega⟩
        rw [Nat.mul_assoc t, ← Nat.pow_add, hg, Nat.pow_add 2 g, ← Nat.mul_assoc]
        have hlow : t * 2 ^ 0 ≤ 2 * (m * 2 ^ mo / n) + (m * 2 ^ mo % n != 0).toNat := by omega
        refine Nat.mul_le_mul_right _ ?_
        have : (2 * (m * 2 ^ mo / n) + (m * 2 ^ mo % n != 0).toNat) * 1 ≤ (2 * (m * 2 ^ mo / n) + (m * 2 ^ mo % n != 0).toNat) * 2 ^ g := Nat.mul_le_mul_left _ (Nat.two_pow_pos _)
        omega
      · obtain ⟨g, hg⟩ : ∃ g, e + (l + mo + 1) = g + (k + E74) := ⟨e + (l + mo + 1) - (k + E74), by omega⟩
        refine rung_down _ _ _ hQ0 (k + E74) (l + mo + 1) ρ place ?_
        rw [hρ, Nat.mul_assoc t, ← Nat.pow_add, hg, Nat.pow_add 2 g, ← Nat.mul_assoc]
        refine Nat.mul_le_mul_right _ ((sticky (m * 2 ^ mo) n t g (by omega) hq ht).2 ?_)
        have a := Nat.mul_le_mul_right (2 ^ (mo + 1)) h
        have b : m * 2 ^ k * 2 ^ E74 * 2 ^ (mo + 1) = 2 * (m * 2 ^ mo) * 2 ^ (k + E74) := by rw [Nat.pow_add 2 k, Nat.pow_succ]; ac_rfl
        have c : t * 2 ^ e * (n * 2 ^ l) * 2 ^ (mo + 1) = t * n * 2 ^ (e + (l + mo + 1)) := by
          rw [show e + (l + mo + 1) = e + l + (mo + 1) by omega, Nat.pow_add (m := e + l), Nat.pow_add (m := e)]; ac_rfl
        rw [b, c, hg, Nat.pow_add 2 g, ← Nat.mul_assoc (t * n)] at a
        have d := Nat.le_of_mul_le_mul_right a (Nat.two_pow_pos _)
        rw [show t * 2 ^ g * n = t * n * 2 ^ g by ac_rfl]
        exact d
end Go.Proofs.YthcgojhfbcgaiaaGreatDoor

namespace Go.Proofs.YthcgojhfbcgaiaaGreatDoor
open Go.RowKit
variable {P : Program}
@[go_sem] theorem run_store_float (w : World) (a : Addr) (m : Mode) (k : FloatKind) (b : Nat) : (store a (.float k b) m).run P w = stored P w a (.float k b) m := run_store P w a _ m rfl
@[go_sem] theorem run_store_map (w : World) (a : Addr) (m : Mode) (r : Option Nat) : (store a (.map r) m).run P w = stored P w a (.map r) m := run_store P w a _ m rfl
@[go_sem] theorem run_store_iface (w : World) (a : Addr) (m : Mode) (t : TypeId) (v : Value) : (store a (.iface t v) m).run P w = stored P w a (.iface t v) m := run_store P w a _ m rfl
end Go.Proofs.YthcgojhfbcgaiaaGreatDoor
