/- impl.InfluxQuantile; spec.Within of one mean. Conditions: the values lie in memory; the tables. spec.Part. laws.FnInfluxWithin, walked. Conditions: the bytes, and the tables of math's sine and cosine, lie in memory. -/
import Derived.Test.YthcgojhfbcgaiaaGreatDoorMBX
import Derived.Test.YthcgojhfbcgaiaaGreatDoorMBP
import Derived.Test.YthcgojhfbcgaiaaGreatDoorMBT

namespace Go.Proofs.YthcgojhfbcgaiaaGreatDoor
open Go.RowKit Go.Sort Go.Proofs

set_option maxRecDepth 100000 in
set_option maxHeartbeats 4000000 in
theorem infq_calls {V cap N c lo hi n j : Nat} {f : Nat → Nat} {oa : Option Addr} {w : World} (E : Env w w.heap.size c hi) (hhi : hi = FI n) (hn : n < 1000) (hj : j ≤ 16) (hN1 : 1 ≤ N)
    (hxs : 0 < N → oa = some ⟨V, 0, none⟩ ∧ V < w.heap.size ∧ ∀ i, i < N → w.cell? ⟨V, i, none⟩ = some (.float .f64 (FI (f i))))
    (hN : N ≤ 300) (hf : ∀ i, i < N → lo ≤ FI (f i) ∧ FI (f i) ≤ hi) :
    Calls Tryz.prog 13 #[.slice oa N cap, .int .i64 (c : Int), .float .f64 (FX (j : Int))] w fun e w' => ∃ r, e = .returned (.float .f64 r) ∧
      Hid (lo ≤ r ∧ r < 2047 * 2 ^ 52 ∧ rungVal r ≤ rungVal (FI n) + rungVal epsW ∧ RowKit.Below w.heap.size w w') := by
  have hnew := Lib.hid (new_calls E.c1 E.c2 w)
  have hwt : ∀ k, k ≤ 300 → wt (lsOf f (fun _ => 1) k) ≤ k := fun k hk => by
    have := lsOf_wt (f := f) (u := fun _ => 1) (m := 1) (fun i => Nat.le_refl 1) k
    omega
  have hlen : ∀ k, k ≤ 300 → (lsOf f (fun _ => 1) k).length = k := fun k hk => by rw [lsOf_len]
  have HE := Lib.hid E
  have Hx := Lib.hid hxs
  have Hf := Lib.hid hf
  have Hw := Lib.hid hwt
  have Hlen := Lib.hid hlen
  have HN := Lib.hid hN
  have HN1 := Lib.hid hN1
  have Hn := Lib.hid hn
  have Hhi := Lib.hid hhi
  have Hj := Lib.hid hj
  have hNi : (N : Int) ≤ 300 := by omega
  have hci : (c : Int) ≤ 1000 := by have := E.c2; omega
  obtain ⟨g, hg⟩ : ∃ g, g = w.heap.size := ⟨_, rfl⟩
  rw [← hg] at hnew HE
  have Hg := Lib.hid hg
  obtain ⟨q, hq⟩ : ∃ q, q = FX (j : Int) := ⟨_, rfl⟩
  rw [← hq]
  have Hq := Lib.hid hq
  clear E hxs hf hwt hlen hN hg hN1 hn hhi hj hq
  go_enter Tryz.func13, Tryz.ntmps13
  go_wp2_with (go_at_call 17; refine hnew.out.mono ?_; rintro e w1 ⟨rfl, hD⟩)
  have HD : Hid (DS w w1 g g c lo hi (lsOf f (fun _ => 1) 0)) := Lib.hid (by
    obtain ⟨l, hl⟩ := hD.out
    have := hl
    rw [Hg.out] at this ⊢
    exact DS.start this)
  clear hD hnew
  go_loopw [15] (fun s15 wr => ∃ k : Nat, s15 = .int .i64 k ∧ Hid (k ≤ N ∧ DS w wr g g c lo hi (lsOf f (fun _ => 1) k)))
    (fun s15 _ => N - (intOf s15).toNat)
  case atStart => exact ⟨0, rfl, Lib.hid ⟨Nat.zero_le _, HD.out⟩⟩
  case round =>
    obtain ⟨k, rfl, hk⟩ := hrel
    have hkN : (k : Int) ≤ (N : Int) := by have := hk.out.1; omega
    rcases Nat.lt_or_ge k N with hlt | hge
    · obtain ⟨h1, h2⟩ := hk.out
      obtain ⟨rfl, x2, x3⟩ := Hx.out (by omega)
      have hb := h2.bel
      rw [Hg.out] at hb
      have k0 : wr.cell? ⟨V, k, none⟩ = some (.float .f64 (FI (f k))) := (hb.cell x2).trans (x3 k hlt)
      have hadd := add_calls HE.out h2 ⟨FI (f k), 1⟩ ⟨(Hf.out k hlt).1, (Hf.out k hlt).2, Nat.le_refl 1⟩ (by have h3 := Hw.out (k + 1) (by have := HN.out; omega); rw [lsOf_succ] at h3; have := HN.out; omega) (by have h3 := Hlen.out (k + 1) (by have := HN.out; omega); rw [lsOf_succ] at h3; have := HN.out; omega)
      rw [show (⟨FI (f k), 1⟩ : Cen).w = 1 from rfl, ← one_FI] at hadd
      have hadd := Lib.hid hadd
      have hki : (k : Int) < (N : Int) := by omega
      obtain ⟨fk, hfk⟩ : ∃ x, x = FI (f k) := ⟨_, rfl⟩
      simp only [← hfk] at k0 hadd
      have Hfk := Lib.hid hfk
      clear h1 h2 x2 x3 hb hfk
      go_wp2_with (go_at_call 18; refine hadd.out.mono ?_; rintro e w2 ⟨rfl, hD2⟩)
      go_roundw
      case rel => exact ⟨k + 1, by go_num, Lib.hid ⟨by omega, by rw [lsOf_succ, ← Hfk.out]; exact hD2.out⟩⟩
      case measure => simp [intOf]; omega
    · obtain rfl : k = N := by have := hk.out.1; omega
      have hqc := quantile_calls HE.out Hhi.out Hn.out hk.out.2 (by have := Hw.out k HN.out; have := HN.out; omega) (by have := Hlen.out k HN.out; have := HN.out; omega) (fun e => by have := Hlen.out k HN.out; rw [e] at this; have := HN1.out; simp at *; omega) Hj.out
      rw [← Hq.out] at hqc
      have Hqc := Lib.hid hqc
      clear hqc hk hge hkN HD Hx
      go_wp2_with (go_at_call 24; refine Hqc.out.mono ?_; rintro e w2 ⟨r, rfl, hR⟩)
      go_ret
      exact ⟨r, rfl, by rw [← Hg.out]; exact hR⟩

set_option maxRecDepth 100000 in
set_option maxHeartbeats 2000000 in
theorem within1_calls {V N cap M cap2 lo n x : Nat} {f : Nat → Nat} {w : World} (hN : 1 ≤ N) (hN2 : N ≤ 100000) (hf : ∀ i, f i < 1000) (hc : ∀ i, i < N → w.cell? ⟨V, i, none⟩ = some (.float .f64 (FI (f i))))
    (hm : w.cell? ⟨M, 0, none⟩ = some (.float .f64 x)) (elo : lo = minTo (fun i => FI (f i)) (N - 1)) (ehi : FI n = maxTo (fun i => FI (f i)) (N - 1)) (hn : n < 1000) (hlo : lo ≤ x) (hx : x < 2047 * 2 ^ 52) (hhi : rungVal x ≤ rungVal (FI n) + rungVal epsW) :
    Calls Tryz.prog 11 #[.slice (some ⟨M, 0, none⟩) 1 cap2, .slice (some ⟨V, 0, none⟩) N cap] w fun e w' => e = .returned (.bool true) ∧ w = w' := by
  have hg : ∀ i, i < N → (fun i => FI (f i)) i < 2047 * 2 ^ 52 := fun i _ => FI_in _ (by have := hf i; omega)
  have c1 := Lib.hid (minF_calls (cap := cap) hN hN2 hc hg)
  have c2 := Lib.hid (maxF_calls (cap := cap) hN hN2 hc hg)
  obtain ⟨a, _, ea⟩ := minTo_at (fun i => FI (f i)) (N - 1)
  rw [ea] at elo c1
  rw [← ehi] at c2
  obtain ⟨lo', e1, l2⟩ := low_ok (hf a)
  obtain ⟨hi', e2, u2⟩ := high_ok2 hn
  have f1 := rs e1
  have f2 := ra e2
  unfold epsW at f1 f2
  obtain ⟨o1, p1, q1⟩ := l2 x (by rw [← elo]; exact hlo) hx
  obtain ⟨o2, p2, q2⟩ := u2 x hx hhi
  have b1 : (FloatKind.f64.format.order x lo' == some .lt) = false := by rw [p1, beq_eq_false_iff_ne]; intro e; injection e with e; exact q1 e
  have b2 : (FloatKind.f64.format.order x hi' == some .gt) = false := by rw [p2, beq_eq_false_iff_ne]; intro e; injection e with e; exact q2 e
  have hNi : (N : Int) ≤ 100000 := by omega
  have hN0 : ¬ (N : Int) = 0 := by omega
  generalize FI (f a) = fa at *
  generalize FI n = fb at *
  clear hN hN2 hf hc elo ehi hlo hx hhi hg ea e1 e2 l2 u2 p1 p2 q1 q2
  go_enter Tryz.func11, Tryz.ntmps11
  go_wp2_with (first
    | (go_at_call 21; refine c1.out.mono ?_; rintro e w1 ⟨rfl, rfl⟩)
    | (go_at_call 22; refine c2.out.mono ?_; rintro e w1 ⟨rfl, rfl⟩))
  go_loop [23] (fun s23 => ∃ j : Nat, s23 = .int .i64 j ∧ j ≤ 1) (fun s23 => 1 - (intOf s23).toNat)
  case atStart => exact ⟨0, rfl, Nat.zero_le _⟩
  case round =>
    obtain ⟨j, rfl, hj⟩ := hrel
    rcases Nat.lt_or_ge j 1 with hlt | hge
    · obtain rfl : j = 0 := by omega
      go_wp2_with fail
      go_round
      case rel => exact ⟨1, by go_num, by omega⟩
      case measure => simp [intOf]
    · obtain rfl : j = 1 := by omega
      go_wp2_with fail
      go_ret
      exact ⟨rfl, rfl⟩
end Go.Proofs.YthcgojhfbcgaiaaGreatDoor

namespace Go.Proofs.YthcgojhfbcgaiaaGreatDoor
open Go.RowKit Go.Sort Go.Proofs

theorem part_div : ∀ k, k < 17 → floatBits .quo .f64 (floatOfInt .f64 ((k : Nat) : Int)) 4625196817309499392 = some (FX ((k : Nat) : Int)) := by decide +kernel

theorem part_calls (n : Nat) (hn : n < 256) (w : World) : Calls Tryz.prog 14 #[.int .u8 n] w fun e w' => e = .returned (.float .f64 (FX ((n % 17 : Nat) : Int))) ∧ w = w' := by
  have hd : ∀ w, (binOp .quo 29 (.float .f64 (floatOfInt .f64 ((n : Int) % 17))) (.float .f64 4625196817309499392)).run Tryz.prog w = .ok (.float .f64 (FX ((n % 17 : Nat) : Int))) w := fun w =>
    run_float_arith _ _ _ _ _ _ _ (by have := part_div (n % 17) (by omega); rwa [Int.natCast_emod] at this)
  have hn' : (n : Int) < 256 := by omega
  go_enter Tryz.func14, Tryz.ntmps14
  go_wp2_with fail
  go_ret
  exact ⟨rfl, rfl⟩

end Go.Proofs.YthcgojhfbcgaiaaGreatDoor

namespace Go.Proofs.YthcgojhfbcgaiaaGreatDoor
open Go.RowKit Go.Sort Go.Proofs

/-- impl.InfluxQuantile, and what the statement asks of what it gives. -/
theorem infq_law {N c j : Nat} {f : Nat → Nat} {oa : Option Addr} {oc : Nat} {w : World} (hc1 : 1 ≤ c) (hc2 : c ≤ 1000) (hj : j ≤ 16) (t1 : Tab6 w 1 cosK) (t2 : Tab6 w 2 sinK) (b3 : 3 ≤ w.heap.size) (hN1 : 1 ≤ N)
    (hxs : 0 < N → ∃ V, oa = some ⟨V, 0, none⟩ ∧ V < w.heap.size ∧ ∀ i, i < N → w.cell? ⟨V, i, none⟩ = some (.float .f64 (FI (f i))))
    (hN : N ≤ 300) (hf : ∀ i, f i < 1000) :
    Calls Tryz.prog 13 #[.slice oa N oc, .int .i64 (c : Int), .float .f64 (FX (j : Int))] w fun e w' => ∃ r, e = .returned (.float .f64 r) ∧
      Hid (RowKit.Below w.heap.size w w' ∧ ∀ (w2 : World) (M c2 : Nat), RowKit.Below w'.heap.size w' w2 → w2.cell? ⟨M, 0, none⟩ = some (.float .f64 r) →
        Calls Tryz.prog 11 #[.slice (some ⟨M, 0, none⟩) 1 c2, .slice oa N oc] w2 fun e w3 => e = .returned (.bool true) ∧ w2 = w3) := by
  obtain ⟨V, rfl, hVl, hVc⟩ := hxs (by omega)
  obtain ⟨a, ha, ea⟩ := maxTo_at (fun i => FI (f i)) (N - 1)
  obtain ⟨lo, hlo⟩ : ∃ lo, lo = minTo (fun i => FI (f i)) (N - 1) := ⟨_, rfl⟩
  obtain ⟨hi, hhi⟩ : ∃ hi, hi = maxTo (fun i => FI (f i)) (N - 1) := ⟨_, rfl⟩
  have hh : hi = FI (f a) := by rw [hhi, ea]
  have hb : hi ≤ FI 1000 := by
    rw [hh]
    exact rungVal_le.1 (by rw [rungVal_FI _ (by have := hf a; omega), rungVal_FI 1000 (by omega)]; exact Nat.mul_le_mul_right _ (by have := hf a; omega))
  have hfb : ∀ i, i < N → lo ≤ FI (f i) ∧ FI (f i) ≤ hi := fun i hi' => by
    rw [hlo, hhi]
    exact ⟨minTo_le (fun i => FI (f i)) (N - 1) i (by omega), maxTo_ge (fun i => FI (f i)) (N - 1) i (by omega)⟩
  refine (infq_calls (V := V) (cap := oc) (lo := lo) (hi := hi) ⟨hc1, hc2, hb, t1, t2, b3⟩ hh (hf a) hj hN1 (fun _ => ⟨rfl, hVl, hVc⟩) hN hfb).mono ?_
  rintro e w' ⟨r, rfl, hR⟩
  obtain ⟨r1, r2, r3, hbl⟩ := hR.out
  refine ⟨r, rfl, Lib.hid ⟨hbl, fun w2 M c2 hb2 hM => ?_⟩⟩
  have hbl2 := hbl.trans (hb2.mono hbl.size)
  exact within1_calls hN1 (by omega) hf (fun i hi' => (hbl2.cell (p := ⟨V, i, none⟩) hVl).trans (hVc i hi')) hM hlo (by rw [← hh, hhi]) (hf a) r1 r2 r3

set_option maxRecDepth 100000 in
set_option maxHeartbeats 4000000 in
theorem lawIW (a : Option Addr) (len cap : Nat) (n k : Nat) (z : Nat → Nat) (hn : n < 256) (hk : k < 256) (w : World) (hlen : len ≤ maxLen) (hz : ∀ j, z j < 256)
    (hc : 0 < len → ∃ b off, a = some ⟨b, off, none⟩ ∧ b < w.heap.size ∧ ∀ j, j < len → w.cell? ⟨b, off + j, none⟩ = some (.int .u8 (z j))) (t1 : Tab6 w 1 cosK) (t2 : Tab6 w 2 sinK) (b3 : 3 ≤ w.heap.size) :
    Calls Tryz.prog 4 #[.slice a len cap, .int .u8 (n : Int), .int .u8 (k : Int)] w fun e w' => e = .returned (.bool true) ∧ RowKit.Below w.heap.size w w' := by
  have hv := Lib.hid (values_row a len cap 300 z (by omega) hz w hlen hc)
  have hsane := fun w => Lib.hid (sane_calls w)
  by_cases hbig : (2147483647 : Int) < (len : Int)
  · clear hv hc hz hlen t1 t2 b3 hsane
    go_enter Tryz.func4, Tryz.ntmps4
    go_wp2_with fail
    go_ret
    exact ⟨rfl, RowKit.Below.refl _ _⟩
  obtain ⟨N, hN⟩ : ∃ N, N = min len 300 := ⟨_, rfl⟩
  rw [← hN] at hv
  have hN3 : N ≤ 300 := by omega
  obtain ⟨c, hcc⟩ : ∃ c, c = 5 + n % 56 := ⟨_, rfl⟩
  obtain ⟨j, hjj⟩ : ∃ j, j = k % 17 := ⟨_, rfl⟩
  have hf : ∀ i, vInt z i < 1000 := fun i => by unfold vInt; omega
  have hcom := fun w => Lib.hid (compr_calls n hn w)
  have hpart := fun w => Lib.hid (part_calls k hk w)
  simp only [← hcc] at hcom
  simp only [← hjj] at hpart
  have hVals : Hid (∀ (oa : Option Addr) (w1 : World), (1 ≤ N → ∃ V, oa = some ⟨V, 0, none⟩ ∧ w.heap.size ≤ V ∧ V < w1.heap.size ∧ FloatsAt w1 V N (fun i => fN (vInt z i))) →
      (0 < N → ∃ V, oa = some ⟨V, 0, none⟩ ∧ V < w1.heap.size ∧ ∀ i, i < N → w1.cell? ⟨V, i, none⟩ = some (.float .f64 (FI (vInt z i))))) := Lib.hid fun oa w1 h1 hpos => by
    obtain ⟨V, e1, _, e3, e4⟩ := h1 hpos
    refine ⟨V, e1, e3, fun i hi => ?_⟩
    have := e4 i hi
    rw [fN_b (vInt z i) (by have := hf i; omega)] at this; exact this
  have hinf : 1 ≤ N → Hid (∀ (oa : Option Addr) (oc : Nat) (w1 : World), RowKit.Below w.heap.size w w1 → (0 < N → ∃ V, oa = some ⟨V, 0, none⟩ ∧ V < w1.heap.size ∧ ∀ i, i < N → w1.cell? ⟨V, i, none⟩ = some (.float .f64 (FI (vInt z i)))) →
      Calls Tryz.prog 13 #[.slice oa N oc, .int .i64 (c : Int), .float .f64 (FX (j : Int))] w1 fun e w' => ∃ r, e = .returned (.float .f64 r) ∧
        Hid (RowKit.Below w1.heap.size w1 w' ∧ ∀ (w2 : World) (M c2 : Nat), RowKit.Below w'.heap.size w' w2 → w2.cell? ⟨M, 0, none⟩ = some (.float .f64 r) →
          Calls Tryz.prog 11 #[.slice (some ⟨M, 0, none⟩) 1 c2, .slice oa N oc] w2 fun e w3 => e = .returned (.bool true) ∧ w2 = w3)) := fun h1 => Lib.hid fun oa oc w1 hb hx =>
    infq_law (by omega) (by omega) (by omega) (t1.below hb (by omega)) (t2.below hb (by omega)) (by have := hb.size; omega) h1 hx hN3 hf
  have hni : (n : Int) ≤ 255 := by omega
  have hki : (k : Int) ≤ 255 := by omega
  have hNi : (N : Int) ≤ 300 := by omega
  generalize FX (j : Int) = q at *
  clear hc hz hlen hN hcc hjj hf hn hk t1 t2 b3 hN3
  rcases Nat.eq_zero_or_pos N with h0 | h0
  · clear hinf
    subst h0
    go_enter Tryz.func4, Tryz.ntmps4
    go_wp2_with (first
      | (go_at_call 6; refine hv.out.mono ?_; rintro e w1 ⟨oa, oc, rfl, hE⟩)
      | (go_at_call 12; refine (hsane _).out.mono ?_; rintro e w6 ⟨rfl, hb6⟩; have HB6 := Lib.hid hb6; clear hb6))
    go_ret
    exact ⟨rfl, hE.out.1.trans (HB6.out.mono hE.out.1.size)⟩
  · have hI := hinf h0
    have hnz : ¬ (N : Int) = 0 := by omega
    clear hinf
    go_enter Tryz.func4, Tryz.ntmps4
    go_wp2_with (first
      | (go_at_call 6; refine hv.out.mono ?_; rintro e w1 ⟨oa, oc, rfl, hE⟩; have HX := Lib.hid (hVals.out oa w1 hE.out.2))
      | (go_at_call 9; refine (hcom _).out.mono ?_; rintro e w3 ⟨rfl, rfl⟩)
      | (go_at_call 14; refine (hpart _).out.mono ?_; rintro e w3 ⟨rfl, rfl⟩)
      | (go_at_call 13; refine (hI.out oa oc w1 hE.out.1 HX.out).mono ?_; rintro e w4 ⟨r, rfl, hG⟩; have hW : Hid (∀ V : Value, (w4.alloc (.cells #[.float .f64 r] 29)).cell? ⟨w4.heap.size, 0, none⟩ = some (.float .f64 r)) := Lib.hid fun _ => cell_of (hp_at w4 (.cells #[.float .f64 r] 29) _ rfl) rfl)
      | (go_at_call 11; refine (hG.out.2 _ _ _ ((RowKit.Below.refl _ _).alloc (Nat.le_refl _) _) (hW.out (.bool true))).mono ?_; rintro e w5 ⟨rfl, rfl⟩)
      | (go_at_call 12; refine (hsane _).out.mono ?_; rintro e w6 ⟨rfl, hb6⟩; have HB6 := Lib.hid hb6; clear hb6))
    go_ret
    have s0 := hE.out.1.size
    have b1 := hG.out.1
    have s1 := b1.size
    have b2 := (hE.out.1.trans (b1.mono s0)).alloc (by omega) (.cells #[.float .f64 r] 29)
    exact ⟨rfl, b2.trans (HB6.out.mono (by simp; omega))⟩
end Go.Proofs.YthcgojhfbcgaiaaGreatDoor
