/- laws.FnExactTop, walked. -/
import Derived.Test.YthcgojhfbcgaiaaTopL
import Derived.Test.YthcgojhfbcgaiaaBytes
import Derived.Test.YthcgojhfbcgaiaaSpec
namespace Go.Proofs.Ythcgojhfbcgaiaa
open Go.RowKit Go.Sort Go.Proofs

set_option maxRecDepth 100000 in
set_option maxHeartbeats 400000 in
theorem lawX (a : Option Addr) (len cap x : Nat) (z : Nat → Nat) (w : World) (hx : x < 256) (hlen : len ≤ maxLen) (hz : ∀ j, z j < 256)
    (hc : 0 < len → ∃ b off, a = some ⟨b, off, none⟩ ∧ b < w.heap.size ∧ ∀ j, j < len → w.cell? ⟨b, off + j, none⟩ = some (.int .u8 (z j))) :
    Calls Try.prog 6 #[.slice a len cap, .int .u8 x] w fun e w' => e = .returned (.bool true) ∧ RowKit.Below w.heap.size w w' := by
  have hsane := fun w => Lib.hid (sane_calls w)
  by_cases hbig : (2147483647 : Int) < (len : Int)
  · clear hc hz hlen hx
    go_enter Try.func6, Try.ntmps6
    go_wp2_with fail
    go_ret
    exact ⟨rfl, RowKit.Below.refl _ _⟩
  obtain ⟨k, hk⟩ : ∃ k, k = 1 + x % 8 := ⟨_, rfl⟩
  have hk1 : 1 ≤ k := by omega
  have hk8 : k ≤ 8 := by omega
  have hkx : 1 + (x : Int) % 8 = (k : Int) := by omega
  obtain ⟨n, hn⟩ : ∃ n, n = min len 60 := ⟨_, rfl⟩
  have hn60 : n ≤ 60 := by omega
  obtain ⟨ws, hws⟩ : ∃ ws, ws = wordsZ k z n := ⟨_, rfl⟩
  have hwl : ws.length = n := by rw [hws]; exact wordsZ_len k z n
  obtain ⟨S, hS⟩ : ∃ S, S = Lib.compact (ws.mergeSort leW) := ⟨_, rfl⟩
  have hSl : S.length ≤ 60 := by
    rw [hS]; have := Lib.compact_length_le (ws.mergeSort leW); rw [(List.mergeSort_perm ws leW).length_eq] at this; omega
  have hW := words_calls len cap k a z w hlen hk1 hk8 hc hz
  rw [← hn, ← hws] at hW
  have hall : Hid (Calls Try.prog 16 #[.slice a len cap, .int .i64 k] w fun e w1 => ∃ oa oc, e = .returned (.slice oa n oc) ∧ Hid (RowKit.Below w.heap.size w w1 ∧
      Calls Try.prog 17 #[.slice oa n oc, .int .i64 k] w1 fun e w2 => ∃ o1 c1 o2 c2, e = .returned (.tuple #[.slice o1 S.length c1, .slice o2 S.length c2]) ∧ Hid (RowKit.Below w1.heap.size w1 w2 ∧
        Calls Try.prog 18 #[.slice oa n oc] w2 fun e w3 => ∃ o3 c3 o4 c4, e = .returned (.tuple #[.slice o3 S.length c3, .slice o4 S.length c4]) ∧ Hid (RowKit.Below w2.heap.size w2 w3 ∧
          (Calls Try.prog 19 #[.slice o1 S.length c1, .slice o3 S.length c3] w3 fun e w4 => e = .returned (.bool true) ∧ ∃ d, w4 = w3.drewN d) ∧
            ∀ d, Calls Try.prog 20 #[.slice o2 S.length c2, .slice o4 S.length c4] (w3.drewN d) fun e w5 => e = .returned (.bool true) ∧ ∃ d', w5 = (w3.drewN d).drewN d')))) := Lib.hid (by
    refine hW.mono ?_
    rintro e w1 ⟨oa, oc, rfl, hq1⟩
    obtain ⟨r1, b1⟩ := hq1.out
    refine ⟨oa, oc, rfl, b1, ?_⟩
    have hT := Top_calls (c := oc) (k := k) (KW := kindsZ k) r1 (by omega) (by rw [hws]; exact wordsZ_kind hk1 z n) (by rw [kindsZ_len]; exact Nat.le_refl _) hk8 (by rw [hws]; exact wordsZ_short k z n)
    rw [← hS, hwl] at hT
    refine hT.mono ?_
    rintro e w2 ⟨o1, c1, o2, c2, rfl, hq2⟩
    obtain ⟨r2, i2, b2⟩ := hq2.out
    refine ⟨o1, c1, o2, c2, rfl, b2, ?_⟩
    have hO := Often_calls (c := oc) (r1.below b2) (by omega)
    rw [← hS, hwl] at hO
    refine hO.mono ?_
    rintro e w3 ⟨o3, c3, o4, c4, rfl, hq3⟩
    obtain ⟨r3, i3, b3⟩ := hq3.out
    refine ⟨o3, c3, o4, c4, rfl, b3, sameTexts_calls (r2.below b3) r3 (by omega), fun d => sameIntsT_calls S.length c2 c4 o2 o4 (fun i => ws.count S[i]!) (w3.drewN d) (by omega) (fun h => ?_) (fun h => ?_)⟩
    · obtain ⟨g, e1, e2, e3⟩ := i2 h
      exact ⟨g, e1, fun i hi => (b3.cell (p := ⟨g, i, none⟩) e2).trans (e3 i hi)⟩
    · obtain ⟨g, e1, _, e3⟩ := i3 h
      exact ⟨g, e1, e3⟩)
  have hxi : (x : Int) ≤ 255 := by omega
  clear hW hc hz hlen hn hws hwl hS hSl hk hk1 hk8 hn60 hx
  go_enter Try.func6, Try.ntmps6
  go_wp2_with (first
    | (go_at_call 16; refine hall.out.mono ?_; rintro e w1 ⟨oa, oc, rfl, hA⟩)
    | (go_at_call 17; refine hA.out.2.mono ?_; rintro e w2 ⟨o1, c1, o2, c2, rfl, hB⟩)
    | (go_at_call 18; refine hB.out.2.mono ?_; rintro e w3 ⟨o3, c3, o4, c4, rfl, hC⟩)
    | (go_at_call 19; refine hC.out.2.1.mono ?_; rintro e w4 ⟨rfl, d, rfl⟩)
    | (go_at_call 20; refine (hC.out.2.2 _).mono ?_; rintro e w5 ⟨rfl, d', rfl⟩)
    | (go_at_call 8; refine (hsane _).out.mono ?_; rintro e w7 ⟨rfl, hb7⟩; have HB7 := Lib.hid hb7; clear hb7))
  go_ret
  have b0 := hA.out.1
  have b1 := hB.out.1
  have b2 := hC.out.1
  have b4 := HB7.out
  have s0 := b0.size
  have s1 := b1.size
  have s2 := b2.size
  exact ⟨rfl, ((b0.trans (b1.mono s0)).trans (b2.mono (by omega))).trans ((below_drewN (RowKit.Below.refl _ _) (d + d')).trans (b4.mono (by show w.heap.size ≤ w3.heap.size; omega)))⟩
end Go.Proofs.Ythcgojhfbcgaiaa
