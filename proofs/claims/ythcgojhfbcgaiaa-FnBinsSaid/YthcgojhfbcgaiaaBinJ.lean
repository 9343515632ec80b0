/- spec.Sum, spec.BinsFit. Conditions: the rows lie in memory. -/
import Derived.Test.YthcgojhfbcgaiaaBinI
namespace Go.Proofs.Ythcgojhfbcgaiaa
open Go.RowKit Go.Sort Go.Proofs

/-- A row's cells. -/
theorem cells_own {w : World} {base n : Nat} {e : TypeId} {oa : Option Addr} {oc : Nat} {xs : List Value} (h : w.ownsRow base e 1 (.slice oa n oc) n xs) (hn : 0 < n) : ∃ g, oa = some ⟨g, 0, none⟩ ∧ base ≤ g ∧ g < w.heap.size ∧ ∀ i, (hi : i < n) → w.cell? ⟨g, i, none⟩ = some (xs[i]'(by have := h.1; omega)) := by
  rcases h.2 with ⟨_, h2⟩ | ⟨g, cap, cur, h1, h2, h3, h4, h5, h6, h7⟩
  · omega
  · refine ⟨g, by injection h1, h2, lt_of_at h3, fun i hi => cell_of h3 ?_⟩
    have hx : i < xs.length := by have := h.1; omega
    have := congrArg (fun l => l[i]?) h7
    simp only [Nat.mul_one] at this
    rw [List.getElem?_take_of_lt hi, Array.getElem?_toList, List.getElem?_eq_getElem hx] at this
    exact this

set_option maxRecDepth 100000 in
set_option maxHeartbeats 400000 in
theorem sum_calls (oa : Option Addr) (N cap : Nat) (f : Nat → Nat) (w : World) (hxs : 0 < N → ∃ V, oa = some ⟨V, 0, none⟩ ∧ ∀ i, i < N → w.cell? ⟨V, i, none⟩ = some (.float .f64 (floatOfInt .f64 (f i : Int)))) (hN : N ≤ 100000) (hb : ∀ k, k ≤ N → sumTo f k < 2 ^ 40) (hf : ∀ i, f i < 2 ^ 40) :
    Calls Try.prog 28 #[.slice oa N cap] w fun e w' => e = .returned (.float .f64 (floatOfInt .f64 (sumTo f N : Int))) ∧ w = w' := by
  have Hx := Lib.hid hxs
  have Hb := Lib.hid hb
  have Hf := Lib.hid hf
  have hNi : (N : Int) ≤ 100000 := by omega
  have h0 : Hid (Value.float .f64 0 = .float .f64 (floatOfInt .f64 (sumTo f 0 : Int))) := Lib.hid (by rw [show sumTo f 0 = 0 from rfl, nan0])
  clear hxs hb hN hf
  go_enter Try.func28, Try.ntmps28
  go_wp2_with fail
  go_loop [3, 8] (fun s3 s8 => ∃ k : Nat, k ≤ N ∧ s8 = .int .i64 k ∧ s3 = .float .f64 (floatOfInt .f64 (sumTo f k : Int))) (fun _ s8 => N - (intOf s8).toNat)
  case atStart => exact ⟨0, Nat.zero_le _, rfl, h0.out⟩
  case round =>
    obtain ⟨k, hk, rfl, rfl⟩ := hrel
    rcases Nat.lt_or_ge k N with hlt | hge
    · obtain ⟨V, rfl, hc⟩ := Hx.out (by omega)
      have hcell := hc k hlt
      obtain ⟨a, ha⟩ : ∃ a, a = floatOfInt .f64 (sumTo f k : Int) := ⟨_, rfl⟩
      obtain ⟨b, hb⟩ : ∃ b, b = floatOfInt .f64 (f k : Int) := ⟨_, rfl⟩
      obtain ⟨c, hc'⟩ : ∃ c, c = floatOfInt .f64 (sumTo f (k + 1) : Int) := ⟨_, rfl⟩
      have q := run_fadd' (x := a) (y := b) (r := c) (by
        have b1 := Hb.out k hk
        have b2 := Hf.out k
        rw [ha, hb, hc', sumTo_succ, FI_FX _ (by omega), FI_FX _ (by omega), FI_FX _ (by omega), FX_add (by omega) (by omega)]
        congr 2; omega)
      rw [← hb] at hcell
      rw [← ha]
      have Hc := Lib.hid hc'
      have hki : (k : Int) < (N : Int) := by omega
      clear hc ha hb hc'
      go_wp2_with fail
      go_round
      case rel => exact ⟨k + 1, by omega, by go_num, by rw [Hc.out]⟩
      case measure => simp [intOf]; omega
    · obtain rfl : k = N := by omega
      go_wp2_with fail
      go_ret
      exact ⟨rfl, rfl⟩

/-- A bin's count and sum by its place. -/
def cAt (L : List Bn.B) (i : Nat) : Nat := ((L[i]?).map (·.c)).getD 0
def sAt (L : List Bn.B) (i : Nat) : Nat := ((L[i]?).map (·.s)).getD 0
theorem sumTo_take (L : List Bn.B) (g : Bn.B → Nat) : ∀ k, k ≤ L.length → sumTo (fun i => ((L[i]?).map g).getD 0) k = ((L.take k).map g).sum
  | 0, _ => by simp [sumTo]
  | k + 1, h => by
    rw [sumTo_succ, sumTo_take L g k (by omega), List.take_succ_eq_append_getElem (by omega), List.map_append, List.sum_append]
    simp [List.getElem?_eq_getElem (show k < L.length by omega)]
theorem sumTo_all (L : List Bn.B) (g : Bn.B → Nat) : sumTo (fun i => ((L[i]?).map g).getD 0) L.length = (L.map g).sum := by
  rw [sumTo_take L g _ (Nat.le_refl _), List.take_length]

set_option maxRecDepth 100000 in
set_option maxHeartbeats 1000000 in
theorem binsfit_calls {w : World} {N vcap most base T c1 c2 : Nat} (f : Nat → Nat) (L : List Bn.B) (oa a1 a2 : Option Addr) (hI : Bn.Inv L N T) (hT : T = sumTo f N) (hN : N ≤ 240) (hf : ∀ i, f i < 1000) (hl : L.length ≤ most) (hm : most ≤ 999)
    (hxs : 0 < N → ∃ V, oa = some ⟨V, 0, none⟩ ∧ ∀ i, i < N → w.cell? ⟨V, i, none⟩ = some (.float .f64 (floatOfInt .f64 (f i : Int))))
    (ho1 : w.ownsRow base 3 1 (.slice a1 L.length c1) L.length (cntV L)) (ho2 : w.ownsRow base 26 1 (.slice a2 L.length c2) L.length (sumV L)) :
    Calls Try.prog 14 #[.slice a1 L.length c1, .slice a2 L.length c2, .slice oa N vcap, .int .i64 most] w fun e w' => e = .returned (.bool true) ∧ ∃ d, w' = w.drewN d := by
  have hsum : ∀ k, k ≤ N → sumTo f k < 2 ^ 18 := fun k hk => by
    have := sumTo_le (f := f) (m := 999) (fun i => by have := hf i; omega) k
    have : k * 999 ≤ 240 * 999 := Nat.mul_le_mul_right _ (by omega)
    omega
  have hTb : T < 2 ^ 18 := by rw [hT]; exact hsum N (Nat.le_refl _)
  obtain ⟨ln, hln⟩ : ∃ ln, ln = L.length := ⟨_, rfl⟩
  have hsv : ∀ k, k ≤ ln → sumTo (sAt L) k < 2 ^ 40 := fun k hk => by
    have h1 : sumTo (sAt L) k = ((L.take k).map (·.s)).sum := sumTo_take L (·.s) k (by omega)
    have h2 : ((L.take k).map (·.s)).sum + ((L.drop k).map (·.s)).sum = (L.map (·.s)).sum := by rw [← List.sum_append, ← List.map_append, List.take_append_drop]
    have h3 := hI.sum
    omega
  have hcv : ∀ k, k ≤ ln → sumTo (cAt L) k ≤ N := fun k hk => by
    have h1 : sumTo (cAt L) k = ((L.take k).map (·.c)).sum := sumTo_take L (·.c) k (by omega)
    have h2 : ((L.take k).map (·.c)).sum + ((L.drop k).map (·.c)).sum = (L.map (·.c)).sum := by rw [← List.sum_append, ← List.map_append, List.take_append_drop]
    have h3 := hI.cnt
    omega
  have hcn : sumTo (cAt L) ln = N := by rw [hln]; exact (sumTo_all L (·.c)).trans hI.cnt
  have hsn : sumTo (sAt L) ln = T := by rw [hln]; exact (sumTo_all L (·.s)).trans hI.sum
  have hsl : ∀ i, sAt L i < 2 ^ 18 := fun i => by
    unfold sAt
    rcases Nat.lt_or_ge i L.length with h | h
    · have := hI.s_le (List.getElem_mem h)
      simp only [List.getElem?_eq_getElem h, Option.map_some, Option.getD_some]; omega
    · simp [List.getElem?_eq_none h]
  have hcells : ∀ i, i < ln → 1 ≤ cAt L i ∧ cAt L i < 2 ^ 8 := fun i hi => by
    have hi' : i < L.length := by omega
    unfold cAt
    simp only [List.getElem?_eq_getElem hi', Option.map_some, Option.getD_some]
    have a := hI.pos _ (List.getElem_mem hi')
    have b := hI.c_le (List.getElem_mem hi')
    omega
  have hmono : ∀ i, i + 1 < ln → mb (cAt L i) (sAt L i) ≤ mb (cAt L (i + 1)) (sAt L (i + 1)) := fun i hi => by
    have b1 := hcells i (by omega)
    have b2 := hcells (i + 1) hi
    have b3 := hsl i
    have b4 := hsl (i + 1)
    refine mb_mono b1.1 b1.2 (by omega) b2.1 b2.2 (by omega) ?_
    have ho := List.pairwise_iff_getElem.1 hI.ord i (i + 1) (by omega) (by omega) (by omega)
    unfold cAt sAt
    simp only [List.getElem?_eq_getElem (show i < L.length by omega), List.getElem?_eq_getElem (show i + 1 < L.length by omega), Option.map_some, Option.getD_some]
    exact ho
  have hrow : 0 < ln → ∃ C S, a1 = some ⟨C, 0, none⟩ ∧ a2 = some ⟨S, 0, none⟩ ∧ ∀ i, i < ln → w.cell? ⟨C, i, none⟩ = some (.int .i64 (cAt L i : Int)) ∧ w.cell? ⟨S, i, none⟩ = some (.float .f64 (floatOfInt .f64 (sAt L i : Int))) := fun h0 => by
    obtain ⟨C, e1, _, _, e2⟩ := cells_own ho1 (by omega)
    obtain ⟨S, e3, _, _, e4⟩ := cells_own ho2 (by omega)
    refine ⟨C, S, e1, e3, fun i hi => ?_⟩
    have hi' : i < L.length := by omega
    refine ⟨(e2 i hi').trans ?_, (e4 i hi').trans ?_⟩
    · simp [cntV, cAt, List.getElem?_eq_getElem hi']
    · simp [sumV, sAt, List.getElem?_eq_getElem hi']
  have hs1 : Hid (∀ d, Calls Try.prog 28 #[.slice a2 ln c2] (w.drewN d) fun e w' => e = .returned (.float .f64 (floatOfInt .f64 (T : Int))) ∧ w.drewN d = w') := Lib.hid fun d => by
    have := sum_calls a2 ln c2 (sAt L) (w.drewN d) (fun h0 => by obtain ⟨C, S, _, e2, e3⟩ := hrow h0; exact ⟨S, e2, fun i hi => (e3 i hi).2⟩) (by omega) hsv (fun i => by have := hsl i; omega)
    rw [hsn] at this; exact this
  have hs2 : Hid (∀ d, Calls Try.prog 28 #[.slice oa N vcap] (w.drewN d) fun e w' => e = .returned (.float .f64 (floatOfInt .f64 (T : Int))) ∧ w.drewN d = w') := Lib.hid fun d => by
    have := sum_calls oa N vcap f (w.drewN d) hxs (by omega) (fun k hk => by have := hsum k hk; omega) (fun i => by have := hf i; omega)
    rw [hT]; exact this
  obtain ⟨tf, htf⟩ : ∃ tf, tf = floatOfInt .f64 (T : Int) := ⟨_, rfl⟩
  have heq : (FloatKind.f64.format.order tf tf == some .eq) = true := by
    show (Ieee.double.order tf tf == some .eq) = true
    have : tf < 2047 * 2 ^ 52 := by rw [htf]; exact FI_lt T (by omega)
    rw [order_pos this this, Nat.compare_eq_eq.2 rfl]; rfl
  rw [← htf] at hs1 hs2
  rw [← hln]
  have Hrow := Lib.hid hrow
  have Hcv := Lib.hid hcv
  have Hcells := Lib.hid hcells
  have Hmono := Lib.hid hmono
  have Hsl := Lib.hid hsl
  have Hcn := Lib.hid hcn
  have hNi : (N : Int) ≤ 240 := by omega
  have hlm : (ln : Int) ≤ (most : Int) := by omega
  have hmi : (most : Int) ≤ 999 := by omega
  clear hI hT hN hf hl hm hxs ho1 ho2 hsum hTb hln hsv hcv hcn hsn hsl hcells hmono hrow htf
  go_enter Try.func14, Try.ntmps14
  go_wp2_with fail
  go_loopw [9, 14] (fun s9 s14 wr => ∃ j : Nat, s14 = .int .i64 j ∧ s9 = .int .i64 (sumTo (cAt L) j : Int) ∧ Hid (j ≤ ln ∧ ∃ d, wr = w.drewN d)) (fun _ s14 _ => ln - (intOf s14).toNat)
  case atStart => exact ⟨0, rfl, rfl, ⟨Nat.zero_le _, 0, rfl⟩⟩
  case round =>
    obtain ⟨j, rfl, rfl, hj⟩ := hrel
    rcases Nat.lt_or_ge j ln with hlt | hge
    · obtain ⟨C, S, rfl, rfl, hc⟩ := Hrow.out (by omega)
      obtain ⟨hc1, hc2⟩ := Hcells.out j hlt
      have hs := Hsl.out j
      obtain ⟨wo, hwo⟩ : ∃ wo : World, wo = wr := ⟨_, rfl⟩
      have k0 : wr.cell? ⟨C, j, none⟩ = some (.int .i64 (cAt L j : Int)) := by obtain ⟨_, d, rfl⟩ := hj.out; exact (hc j hlt).1
      have k1 : wr.cell? ⟨S, j, none⟩ = some (.float .f64 (floatOfInt .f64 (sAt L j : Int))) := by obtain ⟨_, d, rfl⟩ := hj.out; exact (hc j hlt).2
      obtain ⟨c, hcd⟩ : ∃ c, c = cAt L j := ⟨_, rfl⟩
      obtain ⟨sf, hsf⟩ : ∃ sf, sf = floatOfInt .f64 (sAt L j : Int) := ⟨_, rfl⟩
      obtain ⟨m1, hm1⟩ : ∃ m1, m1 = mb (cAt L j) (sAt L j) := ⟨_, rfl⟩
      have q1 := run_quo' (x := sf) (y := floatOfInt .f64 (c : Int)) (r := m1) (by rw [hsf, hcd, hm1]; exact (mb_spec hc1 (by omega) (by omega)).1)
      have hst : Hid (sumTo (cAt L) (j + 1) = sumTo (cAt L) j + c) := Lib.hid (by rw [sumTo_succ, hcd])
      have hcb := Hcv.out (j + 1) (by omega)
      rw [hst.out] at hcb
      obtain ⟨st, hst2⟩ : ∃ st, st = sumTo (cAt L) j := ⟨_, rfl⟩
      rw [← hst2] at hst hcb ⊢
      rw [← hcd] at k0 hc1 hc2
      rw [← hsf] at k1
      have z1 : (st : Int) + (c : Int) ≤ 240 := by omega
      have z2 : (1 : Int) ≤ (c : Int) := by omega
      have z3 : decide ((c : Int) < 1) = false := decide_eq_false (by omega)
      have z4 : (j : Int) < (ln : Int) := by omega
      have z5 : (ln : Int) ≤ 999 := by omega
      have Hj := Lib.hid hj.out
      rcases Nat.eq_zero_or_pos j with h0 | h0
      · subst h0
        clear hc hc1 hc2 hs hwo hcd hsf hm1 hcb hst2 hj q1
        go_wp2_with fail
        go_quiet (fail)
        go_wp2_with fail
        go_roundw
        case rel => exact ⟨1, rfl, by rw [hst.out]; go_num, ⟨by omega, by obtain ⟨_, d, hd⟩ := Hj.out; exact ⟨_, by rw [hd, World.drewN_drewN]⟩⟩⟩
        case measure => simp [intOf]; omega
      · obtain ⟨i, rfl⟩ : ∃ i, j = i + 1 := ⟨j - 1, by omega⟩
        have k2 : wr.cell? ⟨C, i, none⟩ = some (.int .i64 (cAt L i : Int)) := by obtain ⟨_, d, rfl⟩ := hj.out; exact (hc i (by omega)).1
        have k3 : wr.cell? ⟨S, i, none⟩ = some (.float .f64 (floatOfInt .f64 (sAt L i : Int))) := by obtain ⟨_, d, rfl⟩ := hj.out; exact (hc i (by omega)).2
        obtain ⟨hd1, hd2⟩ := Hcells.out i (by omega)
        have ht := Hsl.out i
        obtain ⟨c', hcd'⟩ : ∃ c, c = cAt L i := ⟨_, rfl⟩
        obtain ⟨sf', hsf'⟩ : ∃ sf, sf = floatOfInt .f64 (sAt L i : Int) := ⟨_, rfl⟩
        obtain ⟨m2, hm2⟩ : ∃ m, m = mb (cAt L i) (sAt L i) := ⟨_, rfl⟩
        have q2 := run_quo' (x := sf') (y := floatOfInt .f64 (c' : Int)) (r := m2) (by rw [hsf', hcd', hm2]; exact (mb_spec hd1 (by omega) (by omega)).1)
        have hle : m2 ≤ m1 := by rw [hm1, hm2]; exact Hmono.out i hlt
        have hlt2 : (FloatKind.f64.format.order m1 m2 == some .lt) = false := by
          show (Ieee.double.order m1 m2 == some .lt) = false
          rw [order_pos (by rw [hm1]; exact mb_lt (by omega) (by omega) (by omega)) (by rw [hm2]; exact mb_lt (by omega) (by omega) (by omega))]
          rcases Nat.lt_or_eq_of_le hle with h | h
          · rw [Nat.compare_eq_gt.2 h]; rfl
          · rw [Nat.compare_eq_eq.2 h.symm]; rfl
        rw [← hcd'] at k2
        rw [← hsf'] at k3
        have hiz : (i : Int) ≤ 999 := by omega
        clear hc hc1 hc2 hs hwo hcd hsf hm1 hcb hst2 hj hd1 hd2 ht hcd' hsf' hm2 hle h0
        go_wp2_with fail
        have x1 : IntKind.i64.wrap (i : Int) = (i : Int) := by rw [IntKind.wrap_i64]; omega
        have x2 : (0 : Int) ≤ (i : Int) := by omega
        have x3 : decide ((0 : Int) < (i : Int) + 1) = true := decide_eq_true (by omega)
        have x4 : (i : Int) < (ln : Int) := by omega
        have x5 : (0 : Int) ≤ (i : Int) + 1 := by omega
        have x6 : ((i : Int) + 1).toNat = i + 1 := by omega
        go_quiet (fail)
        clear x1 x2 x3 x4 x5 x6
        go_wp2_with fail
        go_roundw
        case rel => exact ⟨i + 2, by go_num, by rw [show i + 2 = i + 1 + 1 from rfl, hst.out]; go_num, ⟨by omega, by obtain ⟨_, d, hd⟩ := Hj.out; exact ⟨_, by rw [hd, World.drewN_drewN]⟩⟩⟩
        case measure => simp [intOf]; omega
    · obtain rfl : j = ln := by have := hj.out.1; omega
      obtain ⟨_, d, rfl⟩ := hj.out
      rw [Hcn.out]
      have h1 := hs1.out d
      have h2 := hs2.out d
      have hlmN : j ≤ most := by omega
      go_wp2_with (go_at_call 28; first | ((with_reducible refine h1.mono ?_); rintro e w1 ⟨rfl, rfl⟩) | ((with_reducible refine h2.mono ?_); rintro e w1 ⟨rfl, rfl⟩))
      go_ret
      exact ⟨rfl, d, rfl⟩
end Go.Proofs.Ythcgojhfbcgaiaa
