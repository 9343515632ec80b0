/- IEEE doubles that are whole numbers or sixteenths: their sums, products, order, roundings; quotients of positive numbers. Plain lemmas. -/
import Derived.Laws.FloatArith
import Derived.Test.YthcgojhfbcgaiaaGreatDoorMAA

namespace Go.Proofs.YthcgojhfbcgaiaaGreatDoor
open Ieee

theorem two63 : double.signWeight = 2 ^ 63 := rfl
theorem inf_double : double.infRung = 2047 * 2 ^ 52 := rfl

/-- What a finite word reads as. -/
theorem read_word (s : Bool) (r : Nat) (h : r < 2047 * 2 ^ 52) : ∃ m k : Nat, double.read (double.word s r) = .number s m ((k : Int) - 1074) ∧ m * 2 ^ k = rungVal r ∧ m < 2 ^ 53 := by
  have hw : double.word s r = (if s then 2 ^ 63 else 0) + r := by unfold Format.word; rw [two63]; cases s <;> simp
  have hn : (double.word s r / 2 ^ 63 % 2 == 1) = s := by
    rw [hw]
    cases s
    · simp only [Bool.false_eq_true, if_false]; rw [beq_eq_false_iff_ne]; omega
    · simp only [if_true]; rw [beq_iff_eq]; omega
  have hr : double.word s r % 2 ^ 63 = r := by
    rw [hw]
    cases s
    · simp only [Bool.false_eq_true, if_false]; omega
    · simp only [if_true]; omega
  unfold Format.read
  rw [two63, hn, hr, binade_double, inf_double, least_double]
  by_cases h1 : r < 2 ^ 52
  · rw [if_pos h1]
    refine ⟨r, 0, by simp, ?_, by omega⟩
    unfold rungVal; rw [if_pos h1]; simp
  · rw [if_neg h1, if_pos h]
    refine ⟨2 ^ 52 + r % 2 ^ 52, r / 2 ^ 52 - 1, ?_, ?_, by omega⟩
    · rw [show (-1074 : Int) + ((r / 2 ^ 52 - 1 : Nat) : Int) = ((r / 2 ^ 52 - 1 : Nat) : Int) - 1074 by omega]
    · unfold rungVal; rw [if_neg h1]

/-- The word w stands for the whole number z of units of the least subnormal; a zero is the positive one. -/
def Fz (w : Nat) (z : Int) : Prop := ∃ m k : Nat, double.read w = .number (decide (z < 0)) m ((k : Int) - 1074) ∧ m * 2 ^ k = z.natAbs ∧ m < 2 ^ 53

theorem signed_eq (s : Bool) (m k : Nat) : signed s m k = (if s then -((m * 2 ^ k : Nat) : Int) else ((m * 2 ^ k : Nat) : Int)) := by
  unfold signed; rw [Nat.shiftLeft_eq]

theorem signed_of {z : Int} {m k : Nat} (h : m * 2 ^ k = z.natAbs) : signed (decide (z < 0)) m k = z := by
  rw [signed_eq, h]
  by_cases hz : z < 0
  · simp only [hz, decide_true, if_true]; omega
  · simp only [hz, decide_false, Bool.false_eq_true, if_false]; omega

theorem signed_add (s : Bool) (m a b : Nat) : signed s m (a + b) = signed s m a * 2 ^ b := by
  rw [signed_eq, signed_eq]
  cases s
  · simp only [Bool.false_eq_true, if_false, Nat.pow_add]; push_cast; rw [Int.mul_assoc]
  · simp only [if_true, Nat.pow_add]; push_cast; rw [Int.neg_mul, Int.mul_assoc]

theorem pow_pos_int (b : Nat) : (0 : Int) < 2 ^ b := by
  have := Nat.two_pow_pos b
  exact_mod_cast this

theorem cmp_scale (x y : Int) (b : Nat) : compare (x * 2 ^ b) (y * 2 ^ b) = compare x y := by
  have hb := pow_pos_int b
  simp only [compare, compareOfLessAndEq]
  by_cases h1 : x < y
  · rw [if_pos h1, if_pos (Int.mul_lt_mul_of_pos_right h1 hb)]
  · rw [if_neg h1, if_neg (fun h => h1 (Int.lt_of_mul_lt_mul_right h (Int.le_of_lt hb)))]
    by_cases h2 : x = y
    · rw [if_pos h2, if_pos (by rw [h2])]
    · rw [if_neg h2, if_neg (fun h => h2 (Int.eq_of_mul_eq_mul_right (Int.ne_of_gt hb) h))]

/-- THE ORDER OF TWO WORDS IS THE ORDER OF WHAT THEY STAND FOR. -/
theorem order_Fz {x y : Nat} {a b : Int} (hx : Fz x a) (hy : Fz y b) : double.order x y = some (compare a b) := by
  obtain ⟨m, k, h1, h2, _⟩ := hx
  obtain ⟨n, l, h3, h4, _⟩ := hy
  unfold Format.order
  rw [h1, h3]
  simp only [Datum.order]
  congr 1
  obtain ⟨c, hc⟩ : ∃ c : Nat, c = min k l := ⟨_, rfl⟩
  have e1 : ((k : Int) - 1074 - min ((k : Int) - 1074) ((l : Int) - 1074)).toNat = k - c := by omega
  have e2 : ((l : Int) - 1074 - min ((k : Int) - 1074) ((l : Int) - 1074)).toNat = l - c := by omega
  rw [e1, e2, ← cmp_scale _ _ c, ← signed_add, ← signed_add, show k - c + c = k by omega, show l - c + c = l by omega, signed_of h2, signed_of h4]

/-- (The place of a sixteenth above the least place: a name, so that nothing reckons the power.) -/
def E70 : Nat := 1070
theorem E70_eq : E70 = 1070 := rfl
attribute [irreducible] E70

/-- j sixteenths. -/
def FX (j : Int) : Nat := double.nearest (decide (j < 0)) j.natAbs (-4)

theorem kOf_of (mag : Nat) (place : Int) (h : (-1022 : Int) ≤ place + mag.log2) : (kOf mag place : Int) = place + mag.log2 + 1022 := by
  unfold kOf; omega

theorem log2_lt53 {m : Nat} (h0 : m ≠ 0) (h : m < 2 ^ 53) : m.log2 < 53 := (Nat.log2_lt h0).2 h

/-- A number of at most 53 digits that is a multiple of the least place is met. -/
theorem rungOf_small (s : Bool) (m : Nat) (p : Nat) (h0 : m ≠ 0) (h : m < 2 ^ 53) (hp : p ≤ 1900) :
    rungOf s m ((p : Int) - 1074) < 2047 * 2 ^ 52 ∧ rungVal (rungOf s m ((p : Int) - 1074)) = m * 2 ^ p := by
  have hl := log2_lt53 h0 h
  have hk : kOf m ((p : Int) - 1074) = p + m.log2 - 52 := by unfold kOf; omega
  have hkept : keptOf s m ((p : Int) - 1074) = m * 2 ^ (p - kOf m ((p : Int) - 1074)) := by
    unfold keptOf
    rw [show ((kOf m ((p : Int) - 1074) : Int) - 1074 - ((p : Int) - 1074)).toNat = 0 by omega, cut_exact, Nat.shiftLeft_eq]
    congr 2; omega
  have hle := kept_le s m ((p : Int) - 1074)
  have hlt : keptOf s m ((p : Int) - 1074) < 2 ^ 53 := by
    rw [hkept]
    have h1 : m < 2 ^ (m.log2 + 1) := Nat.lt_log2_self
    refine Nat.lt_of_lt_of_le (Nat.mul_lt_mul_of_pos_right h1 (Nat.two_pow_pos _)) ?_
    rw [← Nat.pow_add]
    exact Nat.pow_le_pow_right (by omega) (by omega)
  have hge : kOf m ((p : Int) - 1074) = 0 ∨ 2 ^ 52 ≤ keptOf s m ((p : Int) - 1074) := by
    by_cases h : kOf m ((p : Int) - 1074) = 0
    · exact Or.inl h
    · exact Or.inr (kept_ge s m _ h0 h)
  unfold rungOf
  constructor
  · omega
  · rw [rungVal_at _ _ hlt hge, hkept, Nat.mul_assoc, ← Nat.pow_add]
    congr 2; omega

theorem FX_zero : FX 0 = 0 := rfl

theorem nearest_zero (s : Bool) (p : Int) : double.nearest s 0 p = double.word s 0 := by unfold Format.nearest; rw [if_pos rfl]

theorem FX_word {j : Int} (h : j.natAbs < 2 ^ 53) : ∃ r, FX j = double.word (decide (j < 0)) r ∧ r < 2047 * 2 ^ 52 ∧ rungVal r = j.natAbs * 2 ^ E70 := by
  unfold FX
  by_cases h0 : j.natAbs = 0
  · rw [h0, nearest_zero]; refine ⟨0, rfl, by omega, ?_⟩; unfold rungVal; rw [if_pos (by omega)]; omega
  · have := rungOf_small (decide (j < 0)) j.natAbs E70 h0 h (by have := E70_eq; omega)
    rw [show ((E70 : Int) - 1074) = -4 by have := E70_eq; omega] at this
    refine ⟨_, ?_, this.1, this.2⟩
    rw [nearest_eq _ _ _ h0, inf_double, Nat.min_eq_left (Nat.le_of_lt this.1)]

theorem FX_Fz {j : Int} (h : j.natAbs < 2 ^ 53) : Fz (FX j) (j * 2 ^ E70) := by
  obtain ⟨r, h1, h2, h3⟩ := FX_word h
  obtain ⟨m, k, e1, e2, e3⟩ := read_word (decide (j < 0)) r h2
  have hp := pow_pos_int E70
  have hs : decide (j * 2 ^ E70 < 0) = decide (j < 0) := by
    by_cases hj : j < 0
    · rw [decide_eq_true hj, decide_eq_true (Int.mul_neg_of_neg_of_pos hj hp)]
    · rw [decide_eq_false hj, decide_eq_false (Int.not_lt.2 (Int.mul_nonneg (Int.not_lt.1 hj) (Int.le_of_lt hp)))]
  refine ⟨m, k, by rw [h1, e1, hs], ?_, e3⟩
  rw [e2, h3, Int.natAbs_mul, Int.natAbs_pow]
  rfl

/-- What is j sixteenths, in whatever spelling, is written as 'FX j'. -/
theorem write_FX {j : Int} (h : j.natAbs < 2 ^ 53) (s : Bool) (M : Nat) (p : Int) (A B : Nat) (hAB : (A : Int) - B = p + 1074)
    (hM : M * 2 ^ A = j.natAbs * 2 ^ E70 * 2 ^ B) (hs : s = decide (j < 0)) : double.nearest s M p = FX j := by
  obtain ⟨r, h1, h2, h3⟩ := FX_word h
  by_cases h0 : M = 0
  · have hj : j = 0 := by
      rw [h0, Nat.zero_mul] at hM
      have := Nat.mul_eq_zero.1 hM.symm
      rcases this with h | h
      · rcases Nat.mul_eq_zero.1 h with h | h
        · omega
        · exact absurd h (Nat.ne_of_gt (Nat.two_pow_pos _))
      · exact absurd h (Nat.ne_of_gt (Nat.two_pow_pos _))
    subst hj
    rw [h0, nearest_zero, hs]; rfl
  · rw [nearest_eq _ _ _ h0, h1, hs, rung_exact (decide (j < 0)) M p h0 A B r hAB (by rw [hM, h3]), inf_double, Nat.min_eq_left (Nat.le_of_lt h2)]

theorem FI_eq {n : Int} (h : n.natAbs < 2 ^ 49) : floatOfInt .f64 n = FX (16 * n) := by
  show double.nearest (decide (n < 0)) n.natAbs 0 = _
  refine write_FX (by omega) _ _ _ (4 + E70) 0 (by have := E70_eq; omega) ?_ (by by_cases hn : n < 0 <;> simp [hn] <;> omega)
  rw [Nat.pow_zero, Nat.mul_one, Int.natAbs_mul, show (16 : Int).natAbs = 2 ^ 4 from rfl, Nat.mul_comm (2 ^ 4), Nat.mul_assoc, ← Nat.pow_add]

/-- SUMS. -/
theorem FX_add {i j : Int} (hi : i.natAbs < 2 ^ 52) (hj : j.natAbs < 2 ^ 52) : double.add (FX i) (FX j) = some (FX (i + j)) := by
  obtain ⟨m, k, h1, h2, _⟩ := FX_Fz (j := i) (by omega)
  obtain ⟨n, l, h3, h4, _⟩ := FX_Fz (j := j) (by omega)
  unfold Format.add
  rw [h1, h3]
  simp only [Datum.sum, Option.map_some]
  congr 1
  obtain ⟨c, hc⟩ : ∃ c : Nat, c = min k l := ⟨_, rfl⟩
  have e0 : min ((k : Int) - 1074) ((l : Int) - 1074) = (c : Int) - 1074 := by omega
  have e1 : ((k : Int) - 1074 - ((c : Int) - 1074)).toNat = k - c := by omega
  have e2 : ((l : Int) - 1074 - ((c : Int) - 1074)).toNat = l - c := by omega
  rw [e0, e1, e2]
  have hp := pow_pos_int E70
  have hcp := pow_pos_int c
  have ht : (signed (decide (i * 2 ^ E70 < 0)) m (k - c) + signed (decide (j * 2 ^ E70 < 0)) n (l - c)) * 2 ^ c = (i + j) * 2 ^ E70 := by
    rw [Int.add_mul, ← signed_add, ← signed_add, show k - c + c = k by omega, show l - c + c = l by omega, signed_of h2, signed_of h4, Int.add_mul]
  generalize signed (decide (i * 2 ^ E70 < 0)) m (k - c) + signed (decide (j * 2 ^ E70 < 0)) n (l - c) = T at ht
  have hneg : ∀ x : Int, (x * 2 ^ E70 < 0) ↔ x < 0 := fun x => ⟨fun h => by
    rcases Int.lt_or_le x 0 with h' | h'
    · exact h'
    · exact absurd h (Int.not_lt.2 (Int.mul_nonneg h' (Int.le_of_lt hp))), fun h => Int.mul_neg_of_neg_of_pos h hp⟩
  have hT0 : T = 0 ↔ i + j = 0 := by
    constructor
    · intro h; rw [h, Int.zero_mul] at ht
      rcases Int.mul_eq_zero.1 ht.symm with h | h
      · exact h
      · omega
    · intro h; rw [h, Int.zero_mul] at ht
      rcases Int.mul_eq_zero.1 ht with h | h
      · exact h
      · omega
  have hTn : T < 0 ↔ i + j < 0 := by
    rw [← hneg (i + j), ← ht]
    exact ⟨fun h => Int.mul_neg_of_neg_of_pos h hcp, fun h => by
      rcases Int.lt_or_le T 0 with h' | h'
      · exact h'
      · exact absurd h (Int.not_lt.2 (Int.mul_nonneg h' (Int.le_of_lt hcp)))⟩
  show double.nearest _ _ _ = _
  refine write_FX (by omega) _ _ _ c 0 (by omega) ?_ ?_
  · have := congrArg Int.natAbs ht
    rw [Int.natAbs_mul, Int.natAbs_mul, Int.natAbs_pow, Int.natAbs_pow] at this
    rw [Nat.pow_zero, Nat.mul_one]
    exact this
  · by_cases h : T = 0
    · rw [if_pos h]
      have h' := hT0.1 h
      simp only [hneg]
      by_cases a : i < 0 <;> by_cases b : j < 0 <;> simp [a, b, h'] <;> omega
    · rw [if_neg h]
      simp only [hTn]

theorem FX_sub {i j : Int} (hi : i.natAbs < 2 ^ 52) (hj : j.natAbs < 2 ^ 52) : double.sub (FX i) (FX j) = some (FX (i - j)) := by
  by_cases h0 : j = 0
  · subst h0
    have e := FX_add hi (j := 0) (by omega)
    obtain ⟨m, k, h1, h2, _⟩ := FX_Fz (j := i) (by omega)
    have h3 : double.read (FX 0) = .number false 0 (-1074) := rfl
    unfold Format.add at e
    unfold Format.sub
    rw [h1, h3] at e ⊢
    simp only [Datum.sum, Datum.opposite, Option.map_some, Bool.not_false] at e ⊢
    have z : ∀ s x, signed s 0 x = 0 := fun s x => by rw [signed_eq]; simp
    rw [z] at e ⊢
    simp only [Int.add_zero, Int.sub_zero] at e ⊢
    rw [← e]
    congr 3
    by_cases hi0 : i * 2 ^ E70 < 0
    · simp only [hi0, decide_true, Bool.true_and]
      split
      · rename_i h
        exfalso
        have h9 : signed true m (((k : Int) - 1074) - min ((k : Int) - 1074) (-1074)).toNat * 2 ^ 0 = i * 2 ^ E70 := by
          rw [← signed_add, show (((k : Int) - 1074) - min ((k : Int) - 1074) (-1074)).toNat + 0 = k by omega]
          have := signed_of h2; simp only [hi0, decide_true] at this; exact this
        rw [h] at h9; omega
      · rfl
    · simp only [hi0, decide_false, Bool.false_and]
  · have e : double.sub (FX i) (FX j) = double.add (FX i) (FX (-j)) := by
      unfold Format.sub Format.add
      congr 2
      obtain ⟨r, h1, h2, h3⟩ := FX_word (j := j) (by omega)
      have h4 : FX (-j) = double.word (decide (-j < 0)) r := by
        unfold FX at h1 ⊢
        rw [nearest_eq _ _ _ (by omega)] at h1 ⊢
        have e9 : rungOf (decide (-j < 0)) (-j).natAbs (-4) = rungOf (decide (j < 0)) j.natAbs (-4) := by rw [Int.natAbs_neg]; rfl
        rw [e9]
        have e8 : min (rungOf (decide (j < 0)) j.natAbs (-4)) double.infRung = r := by
          unfold Format.word at h1
          split at h1 <;> omega
        rw [e8]
      obtain ⟨m, k, e1, e2, _⟩ := read_word (decide (j < 0)) r h2
      have e3 : double.read (double.word (decide (-j < 0)) r) = (double.read (double.word (decide (j < 0)) r)).opposite := by
        have hs : decide (-j < 0) = !decide (j < 0) := by by_cases h : j < 0 <;> simp [h] <;> omega
        rw [hs]
        generalize decide (j < 0) = s
        have hw : ∀ s, double.word s r = (if s then 2 ^ 63 else 0) + r := fun s => by unfold Format.word; rw [two63]; cases s <;> simp
        have hn : ∀ s, (double.word s r / 2 ^ 63 % 2 == 1) = s := fun s => by
          rw [hw]
          cases s
          · simp only [Bool.false_eq_true, if_false]; rw [beq_eq_false_iff_ne]; omega
          · simp only [if_true]; rw [beq_iff_eq]; omega
        have hr : ∀ s, double.word s r % 2 ^ 63 = r := fun s => by
          rw [hw]
          cases s
          · simp only [Bool.false_eq_true, if_false]; omega
          · simp only [if_true]; omega
        unfold Format.read
        rw [two63, hn, hr, hn, hr]
        simp only []
        split
        · rfl
        · split
          · rfl
          · split <;> rfl
      rw [h4, e3, h1]
    rw [e, FX_add hi (by omega)]
    rfl

/-- PRODUCTS of numbers that are not negative (a sixteenth is left over sixteen times). -/
theorem FX_mul {i j c : Nat} (hc : c < 2 ^ 53) (hi : i < 2 ^ 53) (hj : j < 2 ^ 53) (h : i * j = 16 * c) : double.mul (FX i) (FX j) = some (FX c) := by
  obtain ⟨m, k, h1, h2, _⟩ := FX_Fz (j := (i : Int)) (by omega)
  obtain ⟨n, l, h3, h4, _⟩ := FX_Fz (j := (j : Int)) (by omega)
  unfold Format.mul
  rw [h1, h3]
  simp only [Datum.product, Option.map_some]
  have hp := pow_pos_int E70
  have nn : ∀ x : Nat, decide ((x : Int) * 2 ^ E70 < 0) = false := fun x => decide_eq_false (Int.not_lt.2 (Int.mul_nonneg (by omega) (Int.le_of_lt hp)))
  congr 1
  rw [nn, nn]
  show double.nearest _ _ _ = _
  have e2 : m * 2 ^ k = i * 2 ^ E70 := by rw [h2, Int.natAbs_mul, Int.natAbs_pow]; rfl
  have e4 : n * 2 ^ l = j * 2 ^ E70 := by rw [h4, Int.natAbs_mul, Int.natAbs_pow]; rfl
  refine write_FX (by omega) _ _ _ (k + l) (4 + E70) (by have := E70_eq; omega) ?_ (by rw [decide_eq_false (show ¬ ((c : Nat) : Int) < 0 by omega)]; rfl)
  have e5 : m * n * 2 ^ (k + l) = (m * 2 ^ k) * (n * 2 ^ l) := by rw [Nat.pow_add]; ac_rfl
  rw [e5, e2, e4]
  have e6 : i * 2 ^ E70 * (j * 2 ^ E70) = (i * j) * (2 ^ E70 * 2 ^ E70) := by ac_rfl
  rw [e6, h, Int.natAbs_natCast]
  have e7 : 16 * c * (2 ^ E70 * 2 ^ E70) = c * 2 ^ E70 * (2 ^ 4 * 2 ^ E70) := by rw [show (16 : Nat) = 2 ^ 4 from rfl]; ac_rfl
  rw [e7, ← Nat.pow_add]

theorem FX_order {i j : Int} (hi : i.natAbs < 2 ^ 53) (hj : j.natAbs < 2 ^ 53) : double.order (FX i) (FX j) = some (compare i j) := by
  rw [order_Fz (FX_Fz hi) (FX_Fz hj), cmp_scale]
end Go.Proofs.YthcgojhfbcgaiaaGreatDoor
