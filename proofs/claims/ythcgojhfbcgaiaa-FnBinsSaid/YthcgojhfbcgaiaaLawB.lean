/- laws.FnBins, walked. -/
import Derived.Test.YthcgojhfbcgaiaaBinJ
import Derived.Test.YthcgojhfbcgaiaaRow
import Derived.Test.YthcgojhfbcgaiaaSpec
namespace Go.Proofs.Ythcgojhfbcgaiaa
open Go.RowKit Go.Sort Go.Proofs

set_option maxRecDepth 100000 in
set_option maxHeartbeats 400000 in
theorem lawB (a : Option Addr) (len cap n : Nat) (z : Nat → Nat) (hn : n < 256) (w : World) (hlen : len ≤ maxLen) (hz : ∀ j, z j < 256)
    (hc : 0 < len → ∃ b off, a = some ⟨b, off, none⟩ ∧ b < w.heap.size ∧ ∀ j, j < len → w.cell? ⟨b, off + j, none⟩ = some (.int .u8 (z j))) :
    Calls Try.prog 4 #[.slice a len cap, .int .u8 n] w fun e w' => e = .returned (.bool true) ∧ RowKit.Below w.heap.size w w' := by
  have hv := Lib.hid (values_row a len cap 200 z (by omega) hz w hlen hc)
  have hsane := fun w => Lib.hid (sane_calls w)
  have hni : (n : Int) ≤ 255 := by omega
  by_cases hbig : (2147483647 : Int) < (len : Int)
  · clear hv hc hz hlen
    go_enter Try.func4, Try.ntmps4
    go_wp2_with fail
    go_ret
    exact ⟨rfl, RowKit.Below.refl _ _⟩
  obtain ⟨N, hN⟩ : ∃ N, N = min len 200 := ⟨_, rfl⟩
  rw [← hN] at hv
  have hN2 : N ≤ 240 := by omega
  obtain ⟨most, hmost⟩ : ∃ m, m = 1 + n % 20 := ⟨_, rfl⟩
  obtain ⟨m0, hm0⟩ : ∃ m0, m0 = n % 20 := ⟨_, rfl⟩
  have e1 : (n : Int) % 20 = (m0 : Int) := by omega
  have e2 : 1 + (m0 : Int) = (most : Int) := by omega
  have hf : ∀ i, vInt z i < 1000 := fun i => by unfold vInt; omega
  have hbf : Hid (∀ oa oc w1, (1 ≤ N → ∃ V, oa = some ⟨V, 0, none⟩ ∧ w.heap.size ≤ V ∧ V < w1.heap.size ∧ FloatsAt w1 V N (fun i => fN (vInt z i))) →
      Calls Try.prog 13 #[.slice oa N oc, .int .i64 most] w1 fun e w' => ∃ v1 v2, e = .returned (.tuple #[v1, v2]) ∧ Hid (RowKit.Below w1.heap.size w1 w' ∧
        Calls Try.prog 14 #[v1, v2, .slice oa N oc, .int .i64 most] w' fun e w'' => e = .returned (.bool true) ∧ ∃ d, w'' = w'.drewN d)) := Lib.hid fun oa oc w1 hx => by
    have hx' : 0 < N → ∃ V, oa = some ⟨V, 0, none⟩ ∧ V < w1.heap.size ∧ FloatsAt w1 V N (fun i => fN (vInt z i)) := fun h => by
      obtain ⟨V, h1, _, h3, h4⟩ := hx h; exact ⟨V, h1, h3, h4⟩
    rcases Nat.eq_zero_or_pos N with h0 | h0
    · refine (bins_calls 0 oc N most (vInt z) oa w1 (fun h => by omega) hN2 hf (by omega) (by omega)).mono ?_
      rintro e w' ⟨L, v1, v2, rfl, g1, g2, g3, g4, g5⟩
      obtain ⟨a1, c1, rfl⟩ := own_slice g3
      obtain ⟨a2, c2, rfl⟩ := own_slice g4
      exact ⟨_, _, rfl, g5, binsfit_calls (vInt z) L oa a1 a2 g1 rfl hN2 hf g2 (by omega) (fun h => by omega) g3 g4⟩
    · obtain ⟨V, h1, h3, h4⟩ := hx' h0
      refine (bins_calls V oc N most (vInt z) oa w1 (fun _ => ⟨h1, h3, h4⟩) hN2 hf (by omega) (by omega)).mono ?_
      rintro e w' ⟨L, v1, v2, rfl, g1, g2, g3, g4, g5⟩
      obtain ⟨a1, c1, rfl⟩ := own_slice g3
      obtain ⟨a2, c2, rfl⟩ := own_slice g4
      refine ⟨_, _, rfl, g5, binsfit_calls (vInt z) L oa a1 a2 g1 rfl hN2 hf g2 (by omega) (fun _ => ⟨V, h1, fun i hi => ?_⟩) g3 g4⟩
      have := (h4.below g5 h3) i hi
      rw [fN_b (vInt z i) (by have := hf i; omega)] at this; exact this
  clear hc hz hlen hN hN2 hmost hm0 hf hn
  go_enter Try.func4, Try.ntmps4
  go_wp2_with (first
    | (go_at_call 12; refine hv.out.mono ?_; rintro e w1 ⟨oa, oc, rfl, hE⟩)
    | (go_at_call 13; refine (hbf.out oa oc w1 hE.out.2).mono ?_; rintro e w2 ⟨v1, v2, rfl, hF⟩)
    | (go_at_call 14; refine hF.out.2.mono ?_; rintro e w3 ⟨rfl, d, rfl⟩)
    | (go_at_call 8; refine (hsane _).out.mono ?_; rintro e w5 ⟨rfl, hb5⟩; have HB5 := Lib.hid hb5; clear hb5))
  go_ret
  have b0 := hE.out.1
  have b1 := hF.out.1
  have b3 := HB5.out
  have s0 := b0.size
  have s1 := b1.size
  exact ⟨rfl, (b0.trans (b1.mono s0)).trans ((below_drewN (RowKit.Below.refl _ _) d).trans (b3.mono (by show _ ≤ w2.heap.size; omega)))⟩
end Go.Proofs.Ythcgojhfbcgaiaa
