/- laws.FnExactBins, walked. -/
import Derived.Test.YthcgojhfbcgaiaaGreatExC
import Derived.Test.YthcgojhfbcgaiaaGreatBytes
import Derived.Test.YthcgojhfbcgaiaaGreatSpec
namespace Go.Proofs.YthcgojhfbcgaiaaGreat
open Go.RowKit Go.Sort Go.Proofs

set_option maxRecDepth 100000 in
set_option maxHeartbeats 400000 in
theorem lawEB (a : Option Addr) (len cap : Nat) (z : Nat → Nat) (w : World) (hlen : len ≤ maxLen) (hz : ∀ j, z j < 256)
    (hc : 0 < len → ∃ b off, a = some ⟨b, off, none⟩ ∧ b < w.heap.size ∧ ∀ j, j < len → w.cell? ⟨b, off + j, none⟩ = some (.int .u8 (z j))) :
    Calls Tryz.prog 3 #[.slice a len cap] w fun e w' => e = .returned (.bool true) ∧ RowKit.Below w.heap.size w w' := by
  have hsane := fun w => Lib.hid (sane_calls w)
  by_cases hbig : (2147483647 : Int) < (len : Int)
  · clear hc hz hlen
    go_enter Tryz.func3, Tryz.ntmps3
    go_wp2_with fail
    go_ret
    exact ⟨rfl, RowKit.Below.refl _ _⟩
  obtain ⟨N, hN⟩ : ∃ N, N = min len 100 := ⟨_, rfl⟩
  have hsm := small_calls a len cap 100 z (by omega) hz w hlen hc
  rw [← hN] at hsm
  have hN1 : N ≤ 100 := by omega
  -- the values in order: what the law holds against each other
  have hall : Hid (Calls Tryz.prog 5 #[.slice a len cap, .int .i64 (100 : Nat)] w fun e w1 => ∃ oa oc, e = .returned (.slice oa N oc) ∧ Hid (RowKit.Below w.heap.size w w1 ∧
      Calls Tryz.prog 4 #[.slice oa N oc] w1 fun e w2 => ∃ ob od, e = .returned (.slice ob N od) ∧ Hid (RowKit.Below w1.heap.size w1 w2 ∧
        Calls Tryz.prog 6 #[.slice ob N od, .int .i64 (10 : Nat)] w2 fun e w3 => ∃ v1 v2, e = .returned (.tuple #[v1, v2]) ∧ Hid (RowKit.Below w2.heap.size w2 w3 ∧
          Calls Tryz.prog 7 #[.slice ob N od] w3 fun e w4 => ∃ v3 v4, e = .returned (.tuple #[v3, v4]) ∧ Hid (RowKit.Below w3.heap.size w3 w4 ∧
            (Calls Tryz.prog 8 #[v1, v3] w4 fun e w5 => e = .returned (.bool true) ∧ ∃ d, w5 = w4.drewN d) ∧
            ∀ d, Calls Tryz.prog 9 #[v2, v4] (w4.drewN d) fun e w5 => e = .returned (.bool true) ∧ w4.drewN d = w5))))) := Lib.hid (by
    rcases Nat.eq_zero_or_pos N with h0 | h0
    · refine hsm.mono ?_
      rintro e w1 ⟨v, rfl, ho, hb, hn⟩
      rw [hn (by omega), h0]
      refine ⟨none, 0, rfl, hb, (sorted_nil w1).mono ?_⟩
      rintro e w2 ⟨rfl, hb2⟩
      refine ⟨none, 0, rfl, hb2, ?_⟩
      refine (bins_calls 0 0 0 10 (fun _ => 0) none w2 (fun h => by omega) (by omega) (fun _ => by show 0 < 1000; omega) (by omega) (by omega)).mono ?_
      rintro e w3 ⟨L, v1, v2, rfl, _, _, q3, q4, q5, q6⟩
      have hL := q3 (fun k hk => by
        obtain rfl : k = 0 := by omega
        show 0 ≤ 10
        omega)
      subst hL
      obtain ⟨a1, c1, rfl⟩ := own_slice q4
      obtain ⟨a2, c2, rfl⟩ := own_slice q5
      refine ⟨_, _, rfl, q6, (different_nil w3).mono ?_⟩
      rintro e w4 ⟨rfl, r3⟩
      exact ⟨_, _, rfl, r3, sameInts_calls 0 c1 0 a1 none (fun _ => 0) w4 (by omega) (fun h => by omega) (fun h => by omega), fun d => same_calls 0 c2 0 a2 none (fun _ => 0) (w4.drewN d) (by omega) (fun _ => by show 0 < 2 ^ 40; omega) (fun h => by omega) (fun h => by omega)⟩
    · refine hsm.mono ?_
      rintro e w1 ⟨v, rfl, ho, hb, _⟩
      rcases floats_of_own (val := fun i => fN (z i % 10)) ho with ⟨_, h1⟩ | ⟨V, cap', rfl, _, _, h3, h4, h5, _⟩
      · omega
      refine ⟨some ⟨V, 0, none⟩, cap', rfl, hb, ?_⟩
      refine (sortedN_calls V cap' N (fun i => z i % 10) w1 h5 h4 h0 (by omega) (fun i => by show z i % 10 < 2 ^ 40; omega)).mono ?_
      rintro e w2 ⟨V', cap2, bs, rfl, p1, p2, p3, p4, p5, p6⟩
      have hbl : bs.length = N := by rw [p1.length_eq]; simp
      obtain ⟨g, hg⟩ : ∃ g : Nat → Nat, g = fun i => bs[i]! := ⟨_, rfl⟩
      have hgl : ∀ i, i < N → g i < 10 := fun i hi => by
        rw [hg]
        show bs[i]! < 10
        rw [getElem!_pos bs i (by omega)]
        have := p1.subset (List.getElem_mem (show i < bs.length by omega))
        simp at this
        obtain ⟨q, _, hq⟩ := this
        omega
      have hgl2 : ∀ i, g i < 1000 := fun i => by
        rcases Nat.lt_or_ge i N with h | h
        · have := hgl i h; omega
        · rw [hg]; show bs[i]! < 1000; rw [getElem!_neg bs i (by omega)]; decide
      have hgm : ∀ i, i + 1 < N → g i ≤ g (i + 1) := fun i hi => by
        rw [hg]
        show bs[i]! ≤ bs[i + 1]!
        rw [getElem!_pos bs i (by omega), getElem!_pos bs (i + 1) (by omega)]
        exact List.pairwise_iff_getElem.1 p2 i (i + 1) (by omega) (by omega) (by omega)
      have p3' : FloatsAt w2 V' N (fun i => fN (g i)) := by rw [hg]; exact p3
      refine ⟨some ⟨V', 0, none⟩, cap2, rfl, p6, ?_⟩
      refine (bins_calls V' cap2 N 10 g _ w2 (fun _ => ⟨rfl, p5, p3'⟩) (by omega) hgl2 (by omega) (by omega)).mono ?_
      rintro e w3 ⟨L, v1, v2, rfl, _, _, q3, q4, q5, q6⟩
      have hL := q3 (fun k hk => Bn.insAll_len hgm hgl k hk)
      subst hL
      obtain ⟨a1, c1, rfl⟩ := own_slice q4
      obtain ⟨a2, c2, rfl⟩ := own_slice q5
      refine ⟨_, _, rfl, q6, ?_⟩
      refine (different_calls V' cap2 N g w3 (p3'.below q6 p5) (by have := q6.size; omega) h0 (by omega) hgm hgl2).mono ?_
      rintro e w4 ⟨v3, v4, rfl, r1, r2, r3⟩
      obtain ⟨a3, c3, rfl⟩ := own_slice r1
      obtain ⟨a4, c4, rfl⟩ := own_slice r2
      have hlen9 := Bn.insAll_len hgm hgl N (Nat.le_refl _)
      have hsb : ∀ i, (((Bn.insAll g N)[i]?).map fun b : Bn.B => b.s).getD 0 < 2 ^ 40 := fun i => by
        have h1 := (insAll_cnt g N).2
        have h2 := sumTo_le (f := g) (m := 999) (fun i => by have := hgl2 i; omega) N
        have h3 : N * 999 ≤ 100 * 999 := Nat.mul_le_mul_right _ hN1
        rcases Nat.lt_or_ge i (Bn.insAll g N).length with h | h
        · have h4 := Bn.sum_ge (fun b : Bn.B => b.s) (List.getElem_mem h)
          rw [List.getElem?_eq_getElem h]
          show ((Bn.insAll g N)[i]).s < 2 ^ 40
          omega
        · rw [List.getElem?_eq_none h]; show 0 < 2 ^ 40; omega
      refine ⟨_, _, rfl, r3, ?_, fun d => ?_⟩
      · refine sameInts_calls _ c1 c3 a1 a3 (fun i => (((Bn.insAll g N)[i]?).map (·.c)).getD 0) w4 (by omega) (fun h => ?_) (fun h => ?_)
        · obtain ⟨G, e1, e2, e3⟩ := cnt_cells q4 h
          exact ⟨G, e1, fun i hi => (r3.cell e2).trans (e3 i hi)⟩
        · obtain ⟨G, e1, _, e3⟩ := cnt_cells r1 h
          exact ⟨G, e1, e3⟩
      · refine same_calls _ c2 c4 a2 a4 (fun i => (((Bn.insAll g N)[i]?).map (·.s)).getD 0) (w4.drewN d) (by omega) hsb (fun h => ?_) (fun h => ?_)
        · obtain ⟨G, e1, e2, e3⟩ := sum_cells q5 h
          exact ⟨G, e1, fun i hi => (r3.cell e2).trans (e3 i hi)⟩
        · obtain ⟨G, e1, _, e3⟩ := sum_cells r2 h
          exact ⟨G, e1, e3⟩)
  clear hsm hc hz hlen hN hN1
  go_enter Tryz.func3, Tryz.ntmps3
  go_wp2_with (first
    | (go_at_call 5; refine hall.out.mono ?_; rintro e w1 ⟨oa, oc, rfl, hA⟩)
    | (go_at_call 4; refine hA.out.2.mono ?_; rintro e w2 ⟨ob, od, rfl, hB⟩)
    | (go_at_call 6; refine hB.out.2.mono ?_; rintro e w3 ⟨v1, v2, rfl, hC⟩)
    | (go_at_call 7; refine hC.out.2.mono ?_; rintro e w4 ⟨v3, v4, rfl, hD⟩)
    | (go_at_call 8; refine hD.out.2.1.mono ?_; rintro e w5 ⟨rfl, d, rfl⟩)
    | (go_at_call 9; refine (hD.out.2.2 d).mono ?_; rintro e w6 ⟨rfl, rfl⟩)
    | (go_at_call 10; refine (hsane _).out.mono ?_; rintro e w7 ⟨rfl, hb7⟩; have HB7 := Lib.hid hb7; clear hb7))
  go_ret
  have b0 := hA.out.1
  have b1 := hB.out.1
  have b2 := hC.out.1
  have b3 := hD.out.1
  have b4 := HB7.out
  have s0 := b0.size
  have s1 := b1.size
  have s2 := b2.size
  have s3 := b3.size
  exact ⟨rfl, (((b0.trans (b1.mono s0)).trans (b2.mono (by omega))).trans (b3.mono (by omega))).trans ((below_drewN (RowKit.Below.refl _ _) d).trans (b4.mono (by show _ ≤ w4.heap.size; omega)))⟩
end Go.Proofs.YthcgojhfbcgaiaaGreat
