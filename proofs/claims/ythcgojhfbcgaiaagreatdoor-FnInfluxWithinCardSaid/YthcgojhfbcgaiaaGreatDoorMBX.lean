/- Quantile. Conditions: the digest lies in memory; its centroids' bounds; the tables. -/
import Derived.Test.YthcgojhfbcgaiaaGreatDoorMBW

namespace Go.Proofs.YthcgojhfbcgaiaaGreatDoor
open Go.RowKit Go.Sort Go.Proofs Ieee

theorem two_FX : (4611686018427387904 : Nat) = FX ((32 : Nat) : Int) := Nat.le_antisymm (of_decide_eq_true (by decide +kernel)) (of_decide_eq_true (by decide +kernel))
set_option maxRecDepth 100000 in
set_option maxHeartbeats 4000000 in
theorem quantile_calls {w0 w : World} {base g c lo hi n : Nat} {L : List Cen} (E : Env w0 base c hi) (hhi : hi = FI n) (hn : n < 1000) (h : DS w0 w base g c lo hi L) (hW : wt L ≤ 300) (hl : L.length ≤ 300) (hL : L ≠ []) {j : Nat} (hj : j ≤ 16) :
    Calls Tryz.prog 24 #[.pointer (some ⟨g, 0, none⟩), .float .f64 (FX (j : Int))] w fun e w' => ∃ r, e = .returned (.float .f64 r) ∧
      Hid (lo ≤ r ∧ r < 2047 * 2 ^ 52 ∧ rungVal r ≤ rungVal (FI n) + rungVal epsW ∧ RowKit.Below base w0 w') := by
  obtain ⟨l, P, U, X, mn, mx, hm, hI, _⟩ := h
  obtain ⟨TB, hTB⟩ : ∃ TB, TB = w.heap.size := ⟨_, rfl⟩
  obtain ⟨wA, hwA⟩ : ∃ wA : World, wA = w.alloc (.cells #[.pointer (some ⟨g, 0, none⟩)] 42) := ⟨_, rfl⟩
  have hmA : PM [] w0 wA base g c l P U X (wt P) (wt U) mn mx := by rw [hwA]; exact hm.alloc _
  have hTA : wA.heap[TB]? = some (.cells #[.pointer (some ⟨g, 0, none⟩)] 42) := by rw [hwA, hTB]; exact hp_at _ _ _ rfl
  have t0 : wA.cell? ⟨TB, 0, none⟩ = some (.pointer (some ⟨g, 0, none⟩)) := cell_of hTA rfl
  have hpr := Lib.hid (processU_calls E hmA hI (by omega) (by omega))
  have hTne : TB ∉ [g, l.bP, l.bU, l.kC] := by
    have e1 := lt_of_at hm.hd
    have e2 := hm.rP.lt
    have e3 := hm.rU.lt
    have e4 : l.kC < w.heap.size := by
      rcases hm.rC with h | h
      · rw [h.2.2.2.2]; exact e1
      · exact h.2.1.lt
    simp; omega
  have HTA := Lib.hid hTA
  have HTne := Lib.hid hTne
  have HL := Lib.hid hL
  have HW := Lib.hid hW
  have Hl := Lib.hid hl
  have Hn := Lib.hid hn
  have Hhi := Lib.hid hhi
  have Hj := Lib.hid hj
  have hqn : FloatKind.f64.format.order (FX (j : Int)) 0 = some (compare (j : Int) 0) := FX_order (i := (j : Int)) (j := 0) (by omega) (by omega)
  have hq1 : FloatKind.f64.format.order (FX (j : Int)) 4607182418800017408 = some (compare (j : Int) 16) := by
    rw [one_FI]
    show FloatKind.f64.format.order (FX (j : Int)) (floatOfInt .f64 ((1 : Nat) : Int)) = _
    rw [FI_FX 1 (by omega)]
    exact FX_order (by omega) (by omega)
  have hq2 : (FloatKind.f64.format.order (FX (j : Int)) 0 == some .lt) = false := by
    rw [hqn, beq_eq_false_iff_ne]
    intro e
    injection e with e
    rw [Int.compare_eq_lt] at e; omega
  have hq3 : (FloatKind.f64.format.order (FX (j : Int)) 4607182418800017408 == some .gt) = false := by
    rw [hq1, beq_eq_false_iff_ne]
    intro e
    injection e with e
    rw [Int.compare_eq_gt] at e; omega
  have hlc := fun a n c w => Lib.hid (cen_Len2 a n c w)
  have FIN : Hid (∀ r, lo ≤ r → r ≤ hi → lo ≤ r ∧ r < 2047 * 2 ^ 52 ∧ rungVal r ≤ rungVal (FI n) + rungVal epsW) := Lib.hid fun r h1 h2 => by
    have := FI_in n (by omega)
    have h3 := rungVal_mono h2
    rw [hhi] at h2 h3
    exact ⟨h1, by omega, by omega⟩
  clear hm hI hmA hTA hTne hL hW hl hn hhi hj hqn hq1 E
  obtain ⟨q, hq⟩ : ∃ q, q = FX (j : Int) := ⟨_, rfl⟩
  rw [← hq] at hq2 hq3 ⊢
  have Hq := Lib.hid hq
  clear hq
  go_enter Tryz.func24, Tryz.ntmps24
  go_upto_region 1 with fail
  rw [← hTB, ← hwA]
  clear hTB hwA
  go_upto_region 2 with (go_at_call 34; refine hpr.out.mono ?_; rintro e w1 ⟨rfl, hP⟩)
  obtain ⟨l1, P', X', mn', mx', hm1, hI1, hfr, _⟩ := hP.out
  obtain ⟨N, hN⟩ : ∃ N, N = wt P' := ⟨_, rfl⟩
  have hNL : wt P' = wt L := by have := hI1.tw; rw [wt_nil, Nat.zero_add] at this; exact this
  have hNb : N ≤ 300 := by rw [hN, hNL]; exact HW.out
  obtain ⟨np, hnp⟩ : ∃ np, np = P'.length := ⟨_, rfl⟩
  have hnb : np ≤ 300 := by have := hI1.len; have := Hl.out; simp at *; omega
  have t1 : w1.cell? ⟨TB, 0, none⟩ = some (.pointer (some ⟨g, 0, none⟩)) := cell_of ((hfr.same TB (lt_of_at HTA.out) HTne.out).trans HTA.out) rfl
  obtain ⟨hQ, hpos, b1, b2, b3, b4⟩ := hm1.qf hI1 HL.out (by omega) t1
  have HE : Hid (∀ i, i < np → lo ≤ P'[i]!.m ∧ P'[i]!.m ≤ hi ∧ 1 ≤ P'[i]!.w) := Lib.hid fun i hi' => by
    rw [getElem!_pos P' i (by omega)]
    exact hI1.el _ (by simp)
  have HS : Hid (∀ i, i + 1 < np → P'[i]!.m ≤ P'[i + 1]!.m) := Lib.hid fun i hi' => by
    rw [getElem!_pos P' i (by omega), getElem!_pos P' (i + 1) (by omega)]
    exact List.pairwise_iff_getElem.1 hI1.so i (i + 1) (by omega) (by omega) (by omega)
  have Hcv : Hid (∀ k, k + 1 < np → cv P' k + 8 ≤ cv P' (k + 1)) := Lib.hid fun k hk => cv_step (fun x hx => (hI1.el x (by simp [hx])).2.2) (by omega)
  have Hcl : Hid (∀ k, cv P' k ≤ 16 * N) := Lib.hid fun k => by rw [hN]; exact cv_le P' k
  have Hc0 : Hid (cv P' 0 = 8 * P'[0]!.w ∧ cv P' np = 16 * N ∧ ∀ i, i < np → P'[i]!.w ≤ N) := Lib.hid ⟨cv_zero (by omega), by rw [hnp, hN]; exact cv_last P', fun i hi' => by
    have h1 := wt_take_succ (P := P') (k := i) (by omega)
    have h2 := wt_take_le P' (i + 1)
    omega⟩
  have HB : Hid (RowKit.Below base w0 w1 ∧ base ≤ w1.heap.size) := Lib.hid ⟨hm1.bel, hm1.ge.2.2.2⟩
  have Hb : Hid (lo ≤ mn' ∧ mn' ≤ P'[0]!.m ∧ P'[np - 1]!.m ≤ mx' ∧ mx' ≤ hi) := Lib.hid (by rw [hnp]; exact ⟨b1, b2, b3, b4⟩)
  have HQ := Lib.hid hQ
  have q1 := hQ.p
  rw [← hnp] at q1
  obtain ⟨bP, hbP⟩ : ∃ x, x = l1.bP := ⟨_, rfl⟩
  obtain ⟨cP, hcP⟩ : ∃ x, x = l1.cP := ⟨_, rfl⟩
  obtain ⟨kC, hkC⟩ : ∃ x, x = l1.kC := ⟨_, rfl⟩
  obtain ⟨cC, hcC⟩ : ∃ x, x = l1.cC := ⟨_, rfl⟩
  rw [← hbP, ← hcP] at q1
  rw [← hbP, ← hcP, ← hkC, ← hcC] at HQ
  have Hnp := Lib.hid hnp
  have HN := Lib.hid hN
  have HNb := Lib.hid hNb
  have hni : (np : Int) ≤ 300 := by omega
  have hpos' : 0 < np := by omega
  have hposi : (0 : Int) < (np : Int) := by omega
  clear hP hm1 hI1 hfr hN hNL hNb hQ b1 b2 b3 b4 hbP hcP hkC hcC hpos hnp hpr HTA HTne t0
  have hnz : ¬ (np : Int) = 0 := by omega
  have hnz2 : ((np : Int) == 0) = false := beq_eq_false_iff_ne.2 hnz
  rcases Nat.lt_or_ge np 2 with hone | htwo
  · have hnp1 : np = 1 := by omega
    obtain ⟨e0, _⟩ := (HQ.out).pm 0 (by rw [← Hnp.out]; exact hpos')
    obtain ⟨m0, hm0⟩ : ∃ m, m = P'[0]!.m := ⟨_, rfl⟩
    rw [← hm0, Nat.zero_mul] at e0
    have Hm0 := Lib.hid hm0
    clear hm0
    subst hnp1
    go_wp2_with (go_at_call 39; refine (hlc _ _ _ _).out.mono ?_; rintro e w2 ⟨rfl, rfl⟩)
    go_ret
    have h1 := HE.out 0 (by omega)
    rw [← Hm0.out] at h1
    obtain ⟨f1, f2, f3⟩ := FIN.out m0 h1.1 h1.2.1
    exact ⟨_, rfl, Lib.hid ⟨f1, f2, f3, HB.out.1⟩⟩
  · have q0 := HQ.out.pw
    rw [← HN.out] at q0
    obtain ⟨ix, hix⟩ : ∃ ix, ix = j * N := ⟨_, rfl⟩
    have hixb : ix ≤ 16 * N := by rw [hix]; exact Nat.mul_le_mul_right _ Hj.out
    have hN16 : 16 * N ≤ 4800 := by have := HNb.out; omega
    have hmul : Ieee.double.mul q (FI N) = some (FX (ix : Int)) := by
      rw [Hq.out]
      show Ieee.double.mul _ (floatOfInt .f64 ((N : Nat) : Int)) = _
      rw [FI_FX N (by omega)]
      exact FX_mul (by omega) (by have := Hj.out; omega) (by omega) (by rw [hix, Nat.mul_left_comm])
    have fm := rm hmul
    obtain ⟨IX, hIX⟩ : ∃ x, x = FX (ix : Int) := ⟨_, rfl⟩
    rw [← hIX] at fm
    obtain ⟨FN, hFN⟩ : ∃ x, x = FI N := ⟨_, rfl⟩
    rw [← hFN] at fm q0
    obtain ⟨IB, hIB⟩ : ∃ IB, IB = w1.heap.size := ⟨_, rfl⟩
    obtain ⟨wI, hwI⟩ : ∃ wI : World, wI = w1.alloc (.cells #[.float .f64 IX] 29) := ⟨_, rfl⟩
    have Hixb := Lib.hid hixb
    have HN16 := Lib.hid hN16
    have HIX := Lib.hid hIX
    have HFN := Lib.hid hFN
    have hn1 : ((np : Int) == 1) = false := beq_eq_false_iff_ne.2 (by omega)
    have hn1' : ¬ (np : Int) = 1 := by omega
    clear hix hixb hN16 hmul hIX hFN
    have aft : Hid (wI.heap[IB]? = some (.cells #[.float .f64 IX] 29) ∧ RowKit.Below w1.heap.size w1 wI) := Lib.hid (by
      refine ⟨by rw [hwI, hIB]; exact hp_at _ _ _ rfl, ?_⟩
      rw [hwI]
      exact (RowKit.Below.refl _ _).alloc (Nat.le_refl _) _)
    go_upto_region 7 with (go_at_call 39; refine (hlc _ _ _ _).out.mono ?_; rintro e w2 ⟨rfl, rfl⟩)
    rw [← hwI, ← hIB]
    have HQI := Lib.hid (HQ.out.below aft.out.2)
    have HBI : Hid (RowKit.Below base w0 wI ∧ base ≤ wI.heap.size) := Lib.hid ⟨HB.out.1.trans (aft.out.2.mono HB.out.2), by have := HB.out.2; have := aft.out.2.size; omega⟩
    have s5 : wI.cell? ⟨IB, 0, none⟩ = some (.float .f64 IX) := cell_of aft.out.1 rfl
    have s2 := HQI.out.t
    have s3 := HQI.out.p
    rw [← Hnp.out] at s3
    obtain ⟨g0, g1⟩ := HQI.out.pm 0 (by rw [← Hnp.out]; exact hpos')
    obtain ⟨c0, c1, c2⟩ := Hc0.out
    have a0 := HE.out 0 hpos'
    have d0 := c2 0 hpos'
    obtain ⟨m0, hm0⟩ : ∃ m, m = P'[0]!.m := ⟨_, rfl⟩
    obtain ⟨ww, hww⟩ : ∃ m, m = P'[0]!.w := ⟨_, rfl⟩
    rw [← hm0, Nat.zero_mul] at g0
    rw [← hww, Nat.zero_mul, Nat.zero_add] at g1
    rw [← hww] at c0 d0 a0
    rw [← hm0] at a0
    have Hb0 : Hid (lo ≤ mn' ∧ mn' ≤ m0) := Lib.hid (by rw [hm0]; exact ⟨Hb.out.1, Hb.out.2.1⟩)
    have hwb : ww ≤ 300 := by have := HNb.out; omega
    have fh := rq (half_of (n := ww) (by omega))
    have hord : FloatKind.f64.format.order IX (FX ((8 * ww : Nat) : Int)) = some (compare (ix : Int) ((8 * ww : Nat) : Int)) := by
      rw [HIX.out]; exact FX_order (by have := Hixb.out; have := HN16.out; omega) (by omega)
    obtain ⟨FW, hFW⟩ : ∃ x, x = FI ww := ⟨_, rfl⟩
    obtain ⟨HWf, hHWf⟩ : ∃ x, x = FX ((8 * ww : Nat) : Int) := ⟨_, rfl⟩
    rw [← hFW] at fh g1
    rw [← hHWf] at fh hord
    have HFW := Lib.hid hFW
    have HHW := Lib.hid hHWf
    have Ha0 := Lib.hid a0
    have HC0 := Lib.hid c0
    have HCn := Lib.hid c1
    have Hwb := Lib.hid hwb
    have Hwl := Lib.hid c2
    have HP0 := Lib.hid (⟨hm0, hww⟩ : _ ∧ _)
    clear hm0 hww c0 c1 c2 a0 d0 hFW hHWf hwb hwI hIB t1 q1 q0 Hc0
    rcases Nat.lt_or_ge (8 * ww) ix with hgt | hle
    · rw [Int.compare_eq_gt.2 (by omega)] at hord
      have hsr : ∀ d, Hid (Calls Tryz.prog 41 #[.int .i64 ((np + 1 : Nat) : Int), .func (.func 42) #[] #[.pointer (some ⟨TB, 0, none⟩), .pointer (some ⟨IB, 0, none⟩)]] (wI.drewN d) fun e w' => ∃ t : Nat, e = .returned (.int .i64 ((t + 1 : Nat) : Int)) ∧ Hid (t + 1 ≤ np ∧ cv P' t < ix ∧ ix ≤ cv P' (t + 1) ∧ ∃ d, w' = wI.drewN d)) := fun d => Lib.hid (by
        have hcb : ∀ k, cv P' k ≤ 4800 := fun k => by have := Hcl.out k; have := HN16.out; omega
        refine (searchQ_calls (w := wI.drewN d) (TB := TB) (IB := IB) (n := np + 1) (fun k => decide (IX ≤ FX ((cv P' k : Nat) : Int))) (by omega) (Lib.hid fun i j hi => ?_)).mono ?_
        · have hQ := (HQI.out.drewN d).drewN j
          have hc := hQ.c
          rw [← Hnp.out] at hc
          exact testQ_calls hQ.t hc (hQ.cu i (by rw [← Hnp.out]; omega)) s5 hi (by omega) (FX_lt _ (by have := hcb i; omega)) (by rw [HIX.out]; exact FX_lt _ (by have := Hixb.out; have := HN16.out; omega)) rfl
        · rintro e w' ⟨k, rfl, hk⟩
          obtain ⟨k1, k2, k3, d', rfl⟩ := hk.out
          have hlt : ∀ m, ix ≤ cv P' m → decide (IX ≤ FX ((cv P' m : Nat) : Int)) = true := fun m h => decide_eq_true (by rw [HIX.out]; exact FX_le h (by have := hcb m; omega))
          have hge : ∀ m, decide (IX ≤ FX ((cv P' m : Nat) : Int)) = true → ix ≤ cv P' m := fun m h => by
            have h := of_decide_eq_true h
            rw [HIX.out, FX_FP, FX_FP] at h
            have := (FP_le (p := 4) (q := 4) (by have := Hixb.out; have := HN16.out; omega) (by omega) (by have := hcb m; omega) (by omega)).1 h
            omega
          have e0 := HC0.out
          have en := HCn.out
          cases k with
          | zero =>
            exfalso
            rcases k3 with h | h
            · omega
            · have := hge 0 h; omega
          | succ t =>
            have a1 : cv P' t < ix := by
              rcases k2 with h | h
              · omega
              · rcases Nat.lt_or_ge (cv P' t) ix with h1 | h1
                · exact h1
                · have := hlt t h1
                  rw [Nat.add_sub_cancel] at h
                  rw [this] at h; cases h
            have a2 : t + 1 ≤ np := by
              rcases Nat.lt_or_ge np (t + 1) with h1 | h1
              · have : t = np := by omega
                have := Hixb.out
                rw [‹t = np›, en] at a1
                omega
              · exact h1
            have a3 : ix ≤ cv P' (t + 1) := by
              rcases k3 with h | h
              · omega
              · exact hge _ h
            exact ⟨t, rfl, Lib.hid ⟨a2, a1, a3, d + d', by rw [World.drewN_drewN]⟩⟩)
      have s25 := HQI.out.c
      rw [← Hnp.out] at s25
      go_quiet (fail)
      clear fh g0 g1
      go_upto_region 10 with (go_at_call 41; refine (hsr _).out.mono ?_; rintro e w3 ⟨t, rfl, hT⟩)
      obtain ⟨a1, a2, a3, d3, hw3⟩ := hT.out
      have HQ3 : Hid (QF w3 TB g bP cP kC cC P' mn' mx') := Lib.hid (by rw [hw3]; exact HQI.out.drewN d3)
      have HB3 : Hid (RowKit.Below base w0 w3) := Lib.hid (by rw [hw3]; exact below_drewN HBI.out.1 _)
      have v5 : w3.cell? ⟨IB, 0, none⟩ = some (.float .f64 IX) := by rw [hw3]; exact s5
      have v2 := HQ3.out.t
      have v3 := HQ3.out.p
      have v25 := HQ3.out.c
      rw [← Hnp.out] at v3 v25
      have hs1 : ((t + 1 : Nat) : Int) - 1 = (t : Int) := by omega
      have hti : (t : Int) ≤ 300 := by omega
      have ht1 : (t : Int) < (np : Int) := by omega
      have ht2 : (t : Int) < ((np + 1 : Nat) : Int) := by omega
      have HA := Lib.hid (⟨a1, a2, a3⟩ : _ ∧ _ ∧ _)
      clear hT hw3 s5 s2 s3 s25 hsr
      rcases Nat.lt_or_eq_of_le a1 with hlt | hEq
      · have k0 := HQ3.out.cu t (by rw [← Hnp.out]; omega)
        have k1 := HQ3.out.cu (t + 1) (by rw [← Hnp.out]; omega)
        obtain ⟨k2, _⟩ := HQ3.out.pm t (by rw [← Hnp.out]; omega)
        obtain ⟨k3, _⟩ := HQ3.out.pm (t + 1) (by rw [← Hnp.out]; omega)
        have hst := Hcv.out t hlt
        have hcb := Hcl.out (t + 1)
        have hcb0 := Hcl.out t
        have hN16 := HN16.out
        have hel := HE.out (t + 1) hlt
        have hel0 := HE.out t (by omega)
        have hso := HS.out t hlt
        obtain ⟨CA, hCA⟩ : ∃ x, x = cv P' t := ⟨_, rfl⟩
        obtain ⟨CB, hCB⟩ : ∃ x, x = cv P' (t + 1) := ⟨_, rfl⟩
        rw [← hCA] at k0 hst hcb0 a2
        rw [← hCB] at k1 hst hcb a3
        have z1 : Ieee.double.sub IX (FX (CA : Int)) = some (FX ((ix : Int) - (CA : Int))) := by rw [HIX.out]; exact FX_sub (by omega) (by omega)
        have z2 : Ieee.double.sub (FX (CB : Int)) IX = some (FX ((CB : Int) - (ix : Int))) := by rw [HIX.out]; exact FX_sub (by omega) (by omega)
        have hsum : Ieee.double.add (FX ((CB : Int) - (ix : Int))) (FX ((ix : Int) - (CA : Int))) = some (FX ((CB - CA : Nat) : Int)) := by
          rw [FX_add (by omega) (by omega)]
          congr 2; omega
        obtain ⟨r, r1, r2, hc⟩ := wavg_calls (x1 := P'[t]!.m) (x2 := P'[t + 1]!.m) (w1 := FX ((CB : Int) - (ix : Int))) (w2 := FX ((ix : Int) - (CA : Int))) (d := CB - CA) hso (Nat.le_trans hel.2.1 (by
          rw [Hhi.out]; exact rungVal_le.1 (by rw [rungVal_FI n (by have := Hn.out; omega), rungVal_FI 1000 (by omega)]; exact Nat.mul_le_mul_right _ (by have := Hn.out; omega)))) (mi_FX (by omega) (by omega)) (mi_FX (by omega) (by omega)) (by omega) (by omega) hsum
        obtain ⟨f1, f2, f3⟩ := FIN.out r (Nat.le_trans hel0.1 r1) (Nat.le_trans r2 hel.2.1)
        have x1 := rs z1
        have x2 := rs z2
        have hwc := fun w => Lib.hid ((hc w).mono fun e w' ⟨u, v⟩ => (⟨u, v.symm⟩ : e = Ending.returned (.float .f64 r) ∧ w' = w))
        have HF := Lib.hid (⟨f1, f2, f3⟩ : _ ∧ _ ∧ _)
        obtain ⟨ma, hma⟩ : ∃ x, x = P'[t]!.m := ⟨_, rfl⟩
        obtain ⟨mb, hmb⟩ : ∃ x, x = P'[t + 1]!.m := ⟨_, rfl⟩
        simp only [← hma, ← hmb] at k2 k3 hwc
        have hne : ¬ (((t + 1 : Nat) : Int) + 1 = ((np + 1 : Nat) : Int)) := by omega
        have ht3 : ((t + 1 : Nat) : Int) < (np : Int) := by omega
        have ht4 : ((t + 1 : Nat) : Int) < ((np + 1 : Nat) : Int) := by omega
        generalize FX ((CB : Int) - (ix : Int)) = Z2 at *
        generalize FX ((ix : Int) - (CA : Int)) = Z1 at *
        generalize FX (CA : Int) = FA at *
        generalize FX (CB : Int) = FB at *
        clear hst hcb hcb0 hN16 hel hel0 hso hCA hCB a1 a2 a3 z1 z2 hsum r1 r2 hc f1 f2 f3 hma hmb hlt
        go_wp2_with fail
        go_quiet (fail)
        go_wp2_with fail
        go_quiet (fail)
        go_wp2_with fail
        go_quiet ((go_at_call 43; refine (hwc _).out.mono ?_; rintro e w9 ⟨rfl, rfl⟩; exact ⟨rfl, _, rfl⟩))
        go_wp2_with fail
        go_ret
        exact ⟨r, rfl, Lib.hid ⟨HF.out.1, HF.out.2.1, HF.out.2.2, below_drewN (below_drewN (below_drewN HB3.out _) _) _⟩⟩
      · obtain rfl : t + 1 = np := hEq
        obtain ⟨k2, k3⟩ := HQ3.out.pm t (by rw [← Hnp.out]; omega)
        have s6 := HQ3.out.pw
        have s9 := HQ3.out.mx
        rw [← HN.out] at s6
        have hcb := HCn.out
        have hN16 := HN16.out
        have hel0 := HE.out t (by omega)
        have hbd := Hb.out
        rw [Nat.add_sub_cancel] at hbd
        have hwl : P'[t]!.w ≤ 300 := by have := Hwl.out t (by omega); have := HNb.out; omega
        obtain ⟨wl, hwl'⟩ : ∃ x, x = P'[t]!.w := ⟨_, rfl⟩
        rw [← hwl'] at k3 hwl hel0
        have e1 : Ieee.double.sub IX (FI N) = some (FX ((ix : Int) - ((16 * N : Nat) : Int))) := by
          rw [HIX.out]
          show Ieee.double.sub _ (floatOfInt .f64 ((N : Nat) : Int)) = _
          rw [FI_FX N (by have := HNb.out; omega)]; exact FX_sub (by omega) (by omega)
        have e2 := half_of (n := wl) (by omega)
        have e3 : Ieee.double.sub (FX ((ix : Int) - ((16 * N : Nat) : Int))) (FX ((8 * wl : Nat) : Int)) = some (FX ((ix : Int) - ((16 * N : Nat) : Int) - ((8 * wl : Nat) : Int))) := FX_sub (by omega) (by omega)
        have e4 : Ieee.double.sub (FX ((8 * wl : Nat) : Int)) (FX ((ix : Int) - ((16 * N : Nat) : Int) - ((8 * wl : Nat) : Int))) = some (FX (((8 * wl : Nat) : Int) - ((ix : Int) - ((16 * N : Nat) : Int) - ((8 * wl : Nat) : Int)))) := FX_sub (by omega) (by omega)
        have hsum : Ieee.double.add (FX ((ix : Int) - ((16 * N : Nat) : Int) - ((8 * wl : Nat) : Int))) (FX (((8 * wl : Nat) : Int) - ((ix : Int) - ((16 * N : Nat) : Int) - ((8 * wl : Nat) : Int)))) = some (FX ((8 * wl : Nat) : Int)) := by
          rw [FX_add (by omega) (by omega)]
          congr 2; omega
        obtain ⟨r, r1, r2, hc⟩ := wavg_calls (x1 := P'[t]!.m) (x2 := mx') (d := 8 * wl) hbd.2.2.1 (Nat.le_trans hbd.2.2.2 (by
          rw [Hhi.out]; exact rungVal_le.1 (by rw [rungVal_FI n (by have := Hn.out; omega), rungVal_FI 1000 (by omega)]; exact Nat.mul_le_mul_right _ (by have := Hn.out; omega)))) (mi_FX (n := 1000) (by omega) (by omega)) (mi_FX (n := 1000) (by omega) (by omega)) (by omega) (by omega) hsum
        obtain ⟨f1, f2, f3⟩ := FIN.out r (Nat.le_trans hel0.1 r1) (Nat.le_trans r2 hbd.2.2.2)
        rw [← HFN.out] at e1 s6
        have x1 := rs e1
        have x2 := rq e2
        have x3 := rs e3
        have x4 := rs e4
        have hwc := fun w => Lib.hid ((hc w).mono fun e w' ⟨u, v⟩ => (⟨u, v.symm⟩ : e = Ending.returned (.float .f64 r) ∧ w' = w))
        have HF := Lib.hid (⟨f1, f2, f3⟩ : _ ∧ _ ∧ _)
        obtain ⟨ma, hma⟩ : ∃ x, x = P'[t]!.m := ⟨_, rfl⟩
        obtain ⟨FW2, hFW2⟩ : ∃ x, x = FI wl := ⟨_, rfl⟩
        simp only [← hma] at k2 hwc
        rw [← hFW2] at k3 x2
        have hne : ((t + 1 : Nat) : Int) + 1 = ((t + 1 + 1 : Nat) : Int) := by omega
        generalize FX (((8 * wl : Nat) : Int) - ((ix : Int) - ((16 * N : Nat) : Int) - ((8 * wl : Nat) : Int))) = Z2 at *
        generalize FX ((ix : Int) - ((16 * N : Nat) : Int) - ((8 * wl : Nat) : Int)) = Z1 at *
        generalize FX ((ix : Int) - ((16 * N : Nat) : Int)) = Z0 at *
        generalize FX ((8 * wl : Nat) : Int) = ZW at *
        clear hcb hN16 hel0 hbd hwl hwl' e1 e2 e3 e4 hsum r1 r2 hc f1 f2 f3 hma hFW2 a1 a2 a3
        go_wp2_with fail
        go_quiet (fail)
        go_wp2_with fail
        go_quiet (first
          | (go_at_call 39; refine (hlc _ _ _ _).out.mono ?_; rintro e w9 ⟨rfl, rfl⟩; exact ⟨rfl, _, rfl⟩)
          | (go_at_call 43; refine (hwc _).out.mono ?_; rintro e w9 ⟨rfl, rfl⟩; exact ⟨rfl, _, rfl⟩))
        go_wp2_with fail
        go_ret
        exact ⟨r, rfl, Lib.hid ⟨HF.out.1, HF.out.2.1, HF.out.2.2, below_drewN (below_drewN HB3.out _) _⟩⟩
    · have hk : FloatKind.f64.format.order IX HWf = some .lt ∨ FloatKind.f64.format.order IX HWf = some .eq := by
        rcases Nat.lt_or_eq_of_le hle with h | h
        · left; rw [hord, Int.compare_eq_lt.2 (by omega)]
        · right; rw [hord, h, Int.compare_eq_eq.2 rfl]
      have e2 : Ieee.double.mul 4611686018427387904 IX = some (FX ((2 * ix : Nat) : Int)) := by
        rw [HIX.out, two_FX]
        exact FX_mul (i := 32) (j := ix) (c := 2 * ix) (by have := Hixb.out; have := HN16.out; omega) (by omega) (by have := Hixb.out; have := HN16.out; omega) (by omega)
      have hFWI := FI_in ww (by have := Hwb.out; omega)
      have hFWx : FI ww = FX ((16 * ww : Nat) : Int) := FI_FX ww (by have := Hwb.out; omega)
      obtain ⟨r, r1, r2⟩ := div_le_one (x := FX ((2 * ix : Nat) : Int)) (y := FI ww) (by rw [hFWx]; exact FX_le (by omega) (by have := Hwb.out; omega)) hFWI (by have := FI_pos (n := ww) (by have := Ha0.out.2.2; omega) (by have := Hwb.out; omega); omega)
      have hm0hi : m0 ≤ FI n := by rw [← Hhi.out]; exact Ha0.out.2.1
      obtain ⟨d, p, res, d1, p1, t1, t2, t3, t4⟩ := arm_ok (r := r) Hn.out Hb0.out.2 hm0hi r2
      rw [← HFW.out] at r1
      have x1 := rm e2
      have x2 := rq r1
      have x3 := rs d1
      have x4 := rm p1
      have x5 := ra t1
      have s8 := HQI.out.mn
      have HF := Lib.hid (⟨t2, t3, t4⟩ : _ ∧ _ ∧ _)
      generalize FX ((2 * ix : Nat) : Int) = I2 at x1 x2
      clear e2 hFWI hFWx r1 r2 hm0hi d1 p1 t1 t2 t3 t4 hle hord
      rcases hk with hk | hk
      all_goals
        go_quiet (fail)
        go_wp2_with fail
        go_quiet (fail)
        go_wp2_with fail
        go_ret
        exact ⟨res, rfl, Lib.hid ⟨Nat.le_trans Hb0.out.1 HF.out.1, HF.out.2.2, HF.out.2.1, below_drewN (below_drewN HBI.out.1 _) _⟩⟩
end Go.Proofs.YthcgojhfbcgaiaaGreatDoor
