/- A finite word is a rung or a rung with its sign turned. Plain lemmas. math.Sin of any float of at most 2^20; integratedQ. Conditions: the size; the tables; the digest's compression. The digest's integratedQ and integratedLocation: some finite float, told by a function. Conditions: the arguments' bounds; the tables; the compression. The merge of a sorted list of centroids: the means stay in order and between the bounds, the weights add up. Plain lemmas. Blocks of the heap under single stores, makings, draws. No condition. -/
import Derived.Laws.FloatBits
import Derived.Test.YthcgojhfbcgaiaaGreatDoorMAH
import Derived.Test.YthcgojhfbcgaiaaGreatDoorMAJ
import Derived.Test.YthcgojhfbcgaiaaGreatDoorMAF
import Derived.Deep.QuietTactic
import Derived.BigQuiet
import Derived.Lib.Hide
import Derived.Below
import Derived.Test.YthcgojhfbcgaiaaGreatDoorMAC
import Derived.Test.YthcgojhfbcgaiaaGreatDoorProg

namespace Go.Proofs.YthcgojhfbcgaiaaGreatDoor
open Ieee

theorem sub_word {x y r : Nat} (h : double.sub x y = some r) : r < 2 ^ 64 := Ieee.Format.sub_lt double h
theorem rung_in {z : Nat} {s : Bool} {m : Nat} {p : Int} (hz : z < 2 ^ 63) (h : double.read z = .number s m p) : z < 2047 * 2 ^ 52 := by
  rcases Nat.lt_or_ge z (2047 * 2 ^ 52) with h1 | h1
  · exact h1
  · exfalso
    unfold Format.read at h
    rw [two63, binade_double, inf_double, Nat.mod_eq_of_lt hz] at h
    simp only [] at h
    rw [if_neg (by omega), if_neg (by omega)] at h
    split at h <;> cases h
theorem mg_rung {z B : Nat} (hz : z < 2 ^ 63) (h : Mg z B) : z < 2047 * 2 ^ 52 ∧ rungVal z ≤ B := by
  obtain ⟨s, m, k, h1, h2⟩ := h
  have hI := rung_in hz h1
  obtain ⟨m', k', e1, e2, _⟩ := read_pos hI
  rw [h1] at e1
  injection e1 with a b c
  subst b
  have : k = k' := by omega
  subst this
  exact ⟨hI, by rw [← e2]; exact h2⟩
/-- The shape of a finite word. -/
theorem mi_class {z n : Nat} (h : Mi z n) (hz : z < 2 ^ 64) (hn : n < 2 ^ 49) : z ≤ FI n ∨ z = 2 ^ 63 ∨ ∃ y, z = y ^^^ 2 ^ 63 ∧ 0 < y ∧ y ≤ FI n := by
  rcases Nat.lt_or_ge z (2 ^ 63) with h1 | h1
  · have := mg_rung h1 h
    left
    exact rungVal_le.1 (by rw [rungVal_FI n hn]; exact this.2)
  · right
    obtain ⟨y, hy⟩ : ∃ y, y = z ^^^ 2 ^ 63 := ⟨_, rfl⟩
    have hzy : z = y ^^^ 2 ^ 63 := by rw [hy, Nat.xor_assoc, Nat.xor_self, Nat.xor_zero]
    have hm := mi_neg h
    rw [← hy] at hm
    have hy63 : y < 2 ^ 63 := by
      have e : y % 2 ^ 63 = z % 2 ^ 63 := by rw [hy, Nat.xor_mod_two_pow]; simp
      have e2 : y / 2 ^ 63 = 0 := by
        rw [hy, ← Nat.shiftRight_eq_div_pow, Nat.shiftRight_xor_distrib, Nat.shiftRight_eq_div_pow, Nat.shiftRight_eq_div_pow, Nat.div_self (by omega)]
        rw [show z / 2 ^ 63 = 1 by omega, Nat.xor_self]
      omega
    have hr := mg_rung hy63 hm
    rcases Nat.eq_zero_or_pos y with h0 | h0
    · left; rw [hzy, h0]; simp
    · exact .inr ⟨y, hzy, h0, rungVal_le.1 (by rw [rungVal_FI n hn]; exact hr.2)⟩
end Go.Proofs.YthcgojhfbcgaiaaGreatDoor

namespace Go.Proofs.YthcgojhfbcgaiaaGreatDoor
open Go.RowKit Go.Proofs Ieee

theorem order_m0 : FloatKind.f64.format.order (2 ^ 63) 0 = some .eq := by decide +kernel
set_option maxRecDepth 100000 in
/-- math.Sin of minus nought. -/
theorem SinM0_calls (w : World) : ∃ r, sinW (2 ^ 63) = some r ∧ Mp r 900 ∧ ∀ d, Calls Tryz.prog 80 #[.float .f64 (2 ^ 63)] (w.drewN d) fun e w' => e = .returned (.float .f64 r) ∧ w.drewN d = w' := by
  have hz : Mp (2 ^ 63) 900 := by
    have := mp_neg (x := 0) ((Mi.pos (n := 1) (by omega) (Nat.zero_le _)).toMp (e := 900) (by omega))
    rwa [Nat.zero_xor] at this
  have hs : ∀ d, Hid (Calls Tryz.prog 103 #[.float .f64 (2 ^ 63)] (w.drewN d) fun e w' => e = .returned (.float .f64 (2 ^ 63)) ∧ w.drewN d = w') := fun d => Lib.hid (by
    have o1 := order_m0
    clear hz
    generalize (2 : Nat) ^ 63 = X at o1 ⊢
    go_enter Tryz.func103, Tryz.ntmps103
    go_wp2_with fail
    go_ret
    exact ⟨rfl, rfl⟩)
  refine ⟨2 ^ 63, by rw [sinW, if_pos (.inr rfl)], hz, fun d => ?_⟩
  have Hc := hs d
  clear hz hs
  generalize (2 : Nat) ^ 63 = X at Hc ⊢
  go_enter Tryz.func80, Tryz.ntmps80
  go_wp2_with (go_at_call 103; refine Hc.out.mono ?_; rintro e w2 ⟨rfl, rfl⟩)
  go_ret
  exact ⟨rfl, rfl⟩
/-- math.Sin of whatever float of at most 2^20: one answer at all draws. -/
theorem SinAny_calls {x : Nat} {w : World} (hx : Mi x (2 ^ 20)) (hx64 : x < 2 ^ 64) (t1 : Tab6 w 1 cosK) (t2 : Tab6 w 2 sinK) : ∃ r, sinW x = some r ∧ Mp r 900 ∧ ∀ d, Calls Tryz.prog 80 #[.float .f64 x] (w.drewN d) fun e w' => e = .returned (.float .f64 r) ∧ w.drewN d = w' := by
  rcases mi_class hx hx64 (by omega) with h | h | h
  · exact Sin_calls (.inl h) t1 t2
  · subst h; exact SinM0_calls w
  · exact Sin_calls (.inr h) t1 t2
end Go.Proofs.YthcgojhfbcgaiaaGreatDoor

namespace Go.Proofs.YthcgojhfbcgaiaaGreatDoor
open Go.RowKit Go.Proofs Ieee

theorem mg_sub_nn {x y ρ : Nat} (hx : x ≤ ρ) (hy : y ≤ ρ) (hρ : ρ < 2047 * 2 ^ 52) : ∃ r, double.sub x y = some r ∧ Mg r (rungVal ρ) := by
  obtain ⟨m, k, h1, h2, _⟩ := read_pos (show x < 2047 * 2 ^ 52 by omega)
  obtain ⟨n, l, h3, h4, _⟩ := read_pos (show y < 2047 * 2 ^ 52 by omega)
  have v1 := rungVal_mono hx
  have v2 := rungVal_mono hy
  unfold Format.sub
  rw [h1, h3]
  simp only [Datum.sum, Datum.opposite, Option.map_some]
  obtain ⟨c, hc⟩ : ∃ c : Nat, c = min k l := ⟨_, rfl⟩
  rw [show min ((k : Int) - 1074) ((l : Int) - 1074) = (c : Int) - 1074 by omega, show ((k : Int) - 1074 - ((c : Int) - 1074)).toNat = k - c by omega,
    show ((l : Int) - 1074 - ((c : Int) - 1074)).toNat = l - c by omega]
  refine ⟨_, rfl, mg_nearest _ _ _ c 0 ρ (by omega) ?_ hρ⟩
  rw [Nat.pow_zero, Nat.mul_one, signed_false, show (!false) = true from rfl, signed_true]
  have e1 : m * 2 ^ (k - c) * 2 ^ c = m * 2 ^ k := by rw [Nat.mul_assoc, ← Nat.pow_add, show k - c + c = k by omega]
  have e2 : n * 2 ^ (l - c) * 2 ^ c = n * 2 ^ l := by rw [Nat.mul_assoc, ← Nat.pow_add, show l - c + c = l by omega]
  rcases Nat.le_total (m * 2 ^ (k - c)) (n * 2 ^ (l - c)) with h | h
  · refine Nat.le_trans (Nat.mul_le_mul_right _ (show _ ≤ n * 2 ^ (l - c) by omega)) ?_
    rw [e2]; omega
  · refine Nat.le_trans (Nat.mul_le_mul_right _ (show _ ≤ m * 2 ^ (k - c) by omega)) ?_
    rw [e1]; omega
theorem mp_half {x a : Nat} (hx : Mp x a) (ha : a < 1000) : ∃ r, double.div x 4611686018427387904 = some r ∧ Mp r a := by
  have ht : (4611686018427387904 : Nat) < 2047 * 2 ^ 52 := by omega
  obtain ⟨m, k, h1, h2, _⟩ := read_pos ht
  obtain ⟨r, e1, e2⟩ := mg_div (ρ := RP a) (b := E) hx ⟨false, m, k, h1, by
    rw [h2]
    have := rungVal_mono (of_decide_eq_true (by decide +kernel : decide (FI 1 ≤ 4611686018427387904) = true))
    rw [rungVal_FI 1 (by omega), Nat.one_mul] at this; exact this⟩ E_pos (by rw [rungVal_RP]; exact Nat.le_refl _) (RP_in (by omega))
  rw [rungVal_RP] at e2
  exact ⟨r, e1, e2⟩

/-- What integratedQ computes. -/
def iqM (C k : Nat) : Option Nat := do
  let a ← Ieee.double.mul (minR k C) 4614256656552045848
  let b ← Ieee.double.div a C
  let x ← Ieee.double.sub b 4609753056924675352
  let s ← sinW x
  let t ← Ieee.double.add s 4607182418800017408
  Ieee.double.div t 4611686018427387904

theorem iq_chain {k c : Nat} (hc : 1 ≤ c) (hc2 : c ≤ 1000) (hk : Mi k (c * 200000)) : ∃ a b x, Ieee.double.mul (minR k (FI c)) 4614256656552045848 = some a ∧ Ieee.double.div a (FI c) = some b ∧ Ieee.double.sub b 4609753056924675352 = some x ∧ Mi x (2 ^ 20) ∧ x < 2 ^ 64 := by
  have hC : Mi (FI c) (c * 200000) := (Mi_FI c (by omega)).mono (by omega)
  have hm : Mi (minR k (FI c)) (c * 200000) := by
    rcases minR_one hk hC with h | h
    · rw [h]; exact hk
    · rw [h]; exact hC
  obtain ⟨a, a1, a2⟩ := mi_mul hm (mi_const (c := 4614256656552045848) (n := 4) (by decide +kernel)) (by omega)
  obtain ⟨b, b1, b2⟩ := mi_div (q := 800000) a2 (Nat.le_refl (FI c)) (FI_in c (by omega)) (by omega) (by omega) (by omega) (by omega)
  obtain ⟨x, x1, x2⟩ := mi_sub b2 (mi_const (c := 4609753056924675352) (n := 2) (by decide +kernel)) (by omega)
  exact ⟨a, b, x, a1, b1, x1, x2.mono (by omega), sub_word x1⟩
theorem iq_tail {s : Nat} (h : Mp s 900) : ∃ t r, Ieee.double.add s 4607182418800017408 = some t ∧ Ieee.double.div t 4611686018427387904 = some r ∧ Mp r 901 := by
  obtain ⟨t, t1, t2⟩ := mp_add 900 h ((mi_const (c := 4607182418800017408) (n := 1) (by decide +kernel)).toMp (e := 0) (by omega)) (by omega) (by omega) (by omega)
  obtain ⟨r, r1, r2⟩ := mp_half t2 (by omega)
  exact ⟨t, r, t1, r1, r2⟩

set_option maxRecDepth 100000 in
set_option maxHeartbeats 1000000 in
theorem integratedQ_calls {w : World} {g k c : Nat} (hc : 1 ≤ c) (hc2 : c ≤ 1000) (hk : Mi k (c * 200000)) (hg : w.cell? ⟨g, 0, none⟩ = some (.float .f64 (FI c))) (t1 : Tab6 w 1 cosK) (t2 : Tab6 w 2 sinK) :
    ∃ r, iqM (FI c) k = some r ∧ Mp r 901 ∧ ∀ d, Calls Tryz.prog 49 #[.pointer (some ⟨g, 0, none⟩), .float .f64 k] (w.drewN d) fun e w' => e = .returned (.float .f64 r) ∧ ∃ q, w' = (w.drewN d).drewN q := by
  obtain ⟨a, b, x, a1, b1, x1, x2, x3⟩ := iq_chain hc hc2 hk
  obtain ⟨s, s1, s2, s3⟩ := SinAny_calls (w := w) x2 x3 t1 t2
  obtain ⟨t, r, u1, u2, u3⟩ := iq_tail s2
  refine ⟨r, by simp only [iqM, a1, b1, x1, s1, u1, u2, bind, Option.bind], u3, fun d => ?_⟩
  have hmin := fun q => Lib.hid (Min_calls k (FI c) ((w.drewN d).drewN q))
  have hsin : ∀ q, Hid (Calls Tryz.prog 80 #[.float .f64 x] ((w.drewN d).drewN q) fun e w' => e = .returned (.float .f64 s) ∧ (w.drewN d).drewN q = w') := fun q => Lib.hid (by rw [World.drewN_drewN]; exact s3 _)
  have f1 := rm a1
  have f2 := rq b1
  have f3 := rs x1
  have f4 := ra u1
  have f5 := rq u2
  have hg' : (w.drewN d).cell? ⟨g, 0, none⟩ = some (.float .f64 (FI c)) := hg
  generalize w.drewN d = w at *
  generalize minR k (FI c) = m at *
  generalize FI c = C at *
  clear a1 b1 x1 x2 x3 s1 s2 s3 u1 u2 u3 t1 t2 hg hc hc2 hk
  go_enter Tryz.func49, Tryz.ntmps49
  go_wp2_with fail
  go_quiet (first
    | (go_at_call 52; refine Calls.quiet_of_same ((hmin _).out.mono fun e w' ⟨he, hw⟩ => ⟨he, hw.symm⟩))
    | (go_at_call 80; refine Calls.quiet_of_same ((hsin _).out.mono fun e w' ⟨he, hw⟩ => ⟨he, hw.symm⟩)))
  go_wp2_with fail
  go_ret
  exact ⟨rfl, _, rfl⟩

/-- What integratedLocation computes. -/
def ilM (C q : Nat) : Option Nat := do
  let a ← Ieee.double.mul 4611686018427387904 q
  let x ← Ieee.double.sub a 4607182418800017408
  let s ← asinW x
  let t ← Ieee.double.add s 4609753056924675352
  let u ← Ieee.double.mul C t
  Ieee.double.div u 4614256656552045848
theorem il_chain {q : Nat} (hq : q ≤ FI 1) : ∃ a x, Ieee.double.mul 4611686018427387904 q = some a ∧ Ieee.double.sub a 4607182418800017408 = some x ∧ Mi x 1 ∧ x < 2 ^ 64 := by
  obtain ⟨a, a1, a2⟩ := nn_mul (c_le (c := 4611686018427387904) (n := 2) (by decide +kernel)) hq (by omega) (by omega) (by omega)
  rcases Nat.le_total a (FI 1) with h | h
  · obtain ⟨x, x1, x2⟩ := mg_sub_nn h (show 4607182418800017408 ≤ FI 1 from c_le (by decide +kernel)) (FI_in 1 (by omega))
    rw [rungVal_FI 1 (by omega)] at x2
    exact ⟨a, x, a1, x1, x2, sub_word x1⟩
  · have h1 : (4607182418800017408 : Nat) ≤ a := Nat.le_trans (c_le (by decide +kernel)) h
    have aI := FI_in (2 * 1) (by omega)
    obtain ⟨x, x1, x2, x3, _⟩ := sub_pos (show a < 2047 * 2 ^ 52 by omega) h1
    have va := rungVal_mono a2
    rw [rungVal_FI _ (by omega)] at va
    have v1 : E ≤ rungVal 4607182418800017408 := by
      rw [one_FI, rungVal_FI 1 (by omega)]; omega
    have hx : x ≤ FI 1 := x3 _ (by rw [rungVal_FI 1 (by omega)]; omega)
    exact ⟨a, x, a1, x1, Mi.pos (by omega) hx, sub_word x1⟩
theorem il_tail {s c : Nat} (hc : 1 ≤ c) (hc2 : c ≤ 1000) (h : Mi s 100020) : ∃ t u r, Ieee.double.add s 4609753056924675352 = some t ∧ Ieee.double.mul (FI c) t = some u ∧ Ieee.double.div u 4614256656552045848 = some r ∧ Mi r (c * 100022) := by
  obtain ⟨t, t1, t2⟩ := mi_add h (mi_const (c := 4609753056924675352) (n := 2) (by decide +kernel)) (by omega)
  obtain ⟨u, u1, u2⟩ := mi_mul (Mi_FI c (by omega)) t2 (by omega)
  obtain ⟨r, r1, r2⟩ := mi_div (q := c * 100022) (b := 1) u2 (y := 4614256656552045848) (of_decide_eq_true (by decide +kernel)) (by omega) (by omega) (by omega) (by omega) (by omega)
  exact ⟨t, u, r, t1, u1, r1, r2⟩
set_option maxRecDepth 100000 in
set_option maxHeartbeats 1000000 in
theorem integratedLocation_calls {w : World} {g q c : Nat} (hc : 1 ≤ c) (hc2 : c ≤ 1000) (hq : q ≤ FI 1) (hg : w.cell? ⟨g, 0, none⟩ = some (.float .f64 (FI c))) :
    ∃ r, ilM (FI c) q = some r ∧ Mi r (c * 100022) ∧ ∀ d, Calls Tryz.prog 51 #[.pointer (some ⟨g, 0, none⟩), .float .f64 q] (w.drewN d) fun e w' => e = .returned (.float .f64 r) ∧ ∃ n, w' = (w.drewN d).drewN n := by
  obtain ⟨a, x, a1, x1, x2, x3⟩ := il_chain hq
  obtain ⟨s, s1, s2, s3⟩ := Asin_calls (x := x) (mi_class x2 x3 (by omega))
  obtain ⟨t, u, r, u1, u2, u3, u4⟩ := il_tail hc hc2 s2
  refine ⟨r, by simp only [ilM, a1, x1, s1, u1, u2, u3, bind, Option.bind], u4, fun d => ?_⟩
  have hsin : ∀ w, Hid (Calls Tryz.prog 81 #[.float .f64 x] w fun e w' => e = .returned (.float .f64 s) ∧ w = w') := fun w => Lib.hid (s3 w)
  have f1 := rm a1
  have f2 := rs x1
  have f3 := ra u1
  have f4 := rm u2
  have f5 := rq u3
  have hg' : (w.drewN d).cell? ⟨g, 0, none⟩ = some (.float .f64 (FI c)) := hg
  generalize w.drewN d = w at *
  generalize FI c = C at *
  clear a1 x1 x2 x3 s1 s2 s3 u1 u2 u3 u4 hg hc hc2 hq
  go_enter Tryz.func51, Tryz.ntmps51
  go_wp2_with fail
  go_quiet (first
    | (go_at_call 81; refine Calls.quiet_of_same ((hsin _).out.mono fun e w' ⟨he, hw⟩ => ⟨he, hw.symm⟩)))
  go_wp2_with fail
  go_ret
  exact ⟨rfl, _, rfl⟩
end Go.Proofs.YthcgojhfbcgaiaaGreatDoor

namespace Go.Proofs.YthcgojhfbcgaiaaGreatDoor
open Ieee

/-- A centroid: the mean's float word, the weight. -/
structure Cen where
  m : Nat
  w : Nat
deriving Inhabited, DecidableEq
def wt (L : List Cen) : Nat := (L.map (·.w)).sum
theorem wt_nil : wt [] = 0 := rfl
theorem wt_cons (c : Cen) (L : List Cen) : wt (c :: L) = c.w + wt L := by simp [wt]
theorem wt_append (L M : List Cen) : wt (L ++ M) = wt L + wt M := by simp [wt]
theorem wt_perm {L M : List Cen} (h : L.Perm M) : wt L = wt M := by
  induction h with
  | nil => rfl
  | cons x _ ih => rw [wt_cons, wt_cons, ih]
  | swap x y l => rw [wt_cons, wt_cons, wt_cons, wt_cons]; omega
  | trans _ _ a b => exact a.trans b

/-- The mean of two, as Centroid.Add computes it. -/
def addM (c r w W : Nat) : Nat := match double.sub r c with
  | none => 0
  | some d => match double.mul (FI w) d with
    | none => 0
    | some p => match double.div p (FI W) with
      | none => 0
      | some q => (double.add c q).getD 0
def addC (a b : Cen) : Cen := ⟨addM a.m b.m b.w (a.w + b.w), a.w + b.w⟩
theorem addC_ok {a b : Cen} (h : a.m ≤ b.m) (hb : b.m ≤ FI 1000) (ha : 1 ≤ a.w) (hw : 1 ≤ b.w) (hW : a.w + b.w ≤ 2 ^ 20) :
    ∃ d p q, double.sub b.m a.m = some d ∧ double.mul (FI b.w) d = some p ∧ double.div p (FI (a.w + b.w)) = some q ∧ double.add a.m q = some (addC a b).m ∧ a.m ≤ (addC a b).m ∧ (addC a b).m ≤ b.m := by
  obtain ⟨d, p, q, m, h1, h2, h3, h4, h5, h6⟩ := mean_step (w := b.w) (W := a.w + b.w) h hb hw (by omega) hW
  have e : (addC a b).m = m := by
    show addM a.m b.m b.w (a.w + b.w) = m
    unfold addM
    rw [h1]
    show (match double.mul (FI b.w) d with | none => 0 | some p => match double.div p (FI (a.w + b.w)) with | none => 0 | some q => (double.add a.m q).getD 0) = m
    rw [show double.mul (FI b.w) d = some p from h2]
    show (match double.div p (FI (a.w + b.w)) with | none => 0 | some q => (double.add a.m q).getD 0) = m
    rw [show double.div p (FI (a.w + b.w)) = some q from h3]
    show (double.add a.m q).getD 0 = m
    rw [h4]; rfl
  exact ⟨d, p, q, h1, h2, h3, by rw [e]; exact h4, by rw [e]; exact h5, by rw [e]; exact h6⟩

/-- Not greater, as the code asks it. -/
def leF (x y : Nat) : Bool := match FloatKind.f64.format.order x y with
  | some .lt => true
  | some .eq => true
  | _ => false

/-- The loop of 'process': the last centroid, then what is still to come. -/
def mergeL (NL : Nat → Nat) : Nat → Nat → Cen → List Cen → List Cen
  | _, _, cur, [] => [cur]
  | lim, s, cur, c :: r => if leF (FI (s + c.w)) lim = true then mergeL NL lim (s + c.w) (addC cur c) r else cur :: mergeL NL (NL s) (s + c.w) c r

/-- A row of centroids in order, between bounds. -/
structure RowC (lo hi : Nat) (L : List Cen) : Prop where
  pw : L.Pairwise (fun a b => a.m ≤ b.m)
  el : ∀ c ∈ L, lo ≤ c.m ∧ c.m ≤ hi ∧ 1 ≤ c.w

theorem mergeL_row {lo hi : Nat} (hhi : hi ≤ FI 1000) (NL : Nat → Nat) : ∀ (r : List Cen) (cur : Cen) (lim s : Nat), RowC lo hi (cur :: r) → wt (cur :: r) ≤ 2 ^ 20 →
    RowC lo hi (mergeL NL lim s cur r) ∧ wt (mergeL NL lim s cur r) = wt (cur :: r) ∧ (∀ c ∈ mergeL NL lim s cur r, cur.m ≤ c.m) ∧ mergeL NL lim s cur r ≠ [] := by
  intro r
  induction r with
  | nil =>
    intro cur lim s h _
    refine ⟨h, rfl, fun c hc => ?_, by simp [mergeL]⟩
    simp [mergeL] at hc
    rw [hc]
    exact Nat.le_refl _
  | cons c r ih =>
    intro cur lim s h hw
    have hp := List.pairwise_cons.1 h.pw
    have hp2 := List.pairwise_cons.1 hp.2
    have hc := h.el cur (by simp)
    have hc2 := h.el c (by simp)
    have hle : cur.m ≤ c.m := hp.1 c (by simp)
    rw [wt_cons, wt_cons] at hw
    unfold mergeL
    split
    · obtain ⟨_, _, _, _, _, _, _, a1, a2⟩ := addC_ok hle (Nat.le_trans hc2.2.1 hhi) hc.2.2 hc2.2.2 (by omega)
      have hrow : RowC lo hi (addC cur c :: r) := by
        refine ⟨List.pairwise_cons.2 ⟨fun x hx => Nat.le_trans a2 (hp2.1 x hx), hp2.2⟩, fun x hx => ?_⟩
        rcases List.mem_cons.1 hx with rfl | hx
        · exact ⟨Nat.le_trans hc.1 a1, Nat.le_trans a2 hc2.2.1, Nat.le_trans hc.2.2 (Nat.le_add_right _ _)⟩
        · exact h.el x (by simp [hx])
      have hwa : wt (addC cur c :: r) = cur.w + (c.w + wt r) := by
        rw [wt_cons]
        show cur.w + c.w + wt r = _
        omega
      obtain ⟨b1, b2, b3, b4⟩ := ih (addC cur c) lim (s + c.w) hrow (by rw [hwa]; exact hw)
      exact ⟨b1, by rw [b2, hwa, wt_cons, wt_cons], fun x hx => Nat.le_trans a1 (b3 x hx), b4⟩
    · have hrow : RowC lo hi (c :: r) := ⟨hp.2, fun x hx => h.el x (by simp [List.mem_cons.1 hx])⟩
      obtain ⟨b1, b2, b3, b4⟩ := ih c (NL s) (s + c.w) hrow (by rw [wt_cons]; omega)
      refine ⟨⟨List.pairwise_cons.2 ⟨fun x hx => Nat.le_trans hle (b3 x hx), b1.pw⟩, fun x hx => ?_⟩, by rw [wt_cons, b2, wt_cons cur], fun x hx => ?_, by simp⟩
      · rcases List.mem_cons.1 hx with rfl | hx
        · exact hc
        · exact b1.el x hx
      · rcases List.mem_cons.1 hx with rfl | hx
        · exact Nat.le_refl _
        · exact Nat.le_trans hle (b3 x hx)
end Go.Proofs.YthcgojhfbcgaiaaGreatDoor

namespace Go.Proofs.YthcgojhfbcgaiaaGreatDoor
open Go.RowKit

theorem cell_of {w : World} {b i : Nat} {c : Array Value} {t : TypeId} {v : Value} (h : w.heap[b]? = some (.cells c t)) (hv : c[i]? = some v) : w.cell? ⟨b, i, none⟩ = some v := by
  unfold World.cell?; rw [h]; simpa using hv
theorem free_of {w : World} {b i : Nat} {c : Array Value} {t : TypeId} (h : w.heap[b]? = some (.cells c t)) : w.frozen? ⟨b, i, none⟩ = false := by
  unfold World.frozen?; rw [h]; simp
theorem lt_of_at {w : World} {b : Nat} {o : Obj} (h : w.heap[b]? = some o) : b < w.heap.size := by
  rcases Nat.lt_or_ge b w.heap.size with h' | h'
  · exact h'
  · rw [Array.getElem?_eq_none h'] at h; cases h
theorem at_alloc {w : World} {b : Nat} {o : Obj} (x : Obj) (h : w.heap[b]? = some o) : (w.alloc x).heap[b]? = some o := by
  rw [Below.heap_alloc _ _ _ (lt_of_at h)]; exact h
theorem at_set {w : World} {b : Nat} {c : Array Value} {t : TypeId} (h : w.heap[b]? = some (.cells c t)) (i : Nat) (v : Value) :
    (w.setCell ⟨b, i, none⟩ v).heap[b]? = some (.cells (c.setIfInBounds i v) t) := by
  simp [World.setCell, Array.getElem?_modify, h]
theorem at_set_other {w : World} {b : Nat} {o : Obj} {a : Addr} (v : Value) (hne : a.block ≠ b) (h : w.heap[b]? = some o) : (w.setCell a v).heap[b]? = some o := by
  simp [World.setCell, Array.getElem?_modify, h, hne]
theorem below_drewN {base : Nat} {a w : World} (h : Below base a w) (n : Nat) : Below base a (w.drewN n) := by
  induction n with
  | zero => exact h
  | succ k ih => exact ih.drew
theorem hp_at (X : World) (o : Obj) (k : Nat) (h : k = X.heap.size) : (X.alloc o).heap[k]? = some o := by
  show (X.heap.push o)[k]? = _
  rw [Array.getElem?_push, if_pos h]
end Go.Proofs.YthcgojhfbcgaiaaGreatDoor
