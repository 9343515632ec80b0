/- A histogram's reservoir in memory; the search's test; sort.Search over it. Conditions: the reservoir lies in memory. -/
import Derived.Test.YthcgojhfbcgaiaaGreatBinA
namespace Go.Proofs.YthcgojhfbcgaiaaGreat
open Go.RowKit Go.Proofs

set_option maxRecDepth 100000 in
theorem testB_calls {w : World} {RB BB R b g len cap i bi c s f : Nat} {T : Bool} (h1 : w.cell? ⟨RB, 0, none⟩ = some (.pointer (some ⟨R, 0, none⟩))) (h2 : w.cell? ⟨BB, 0, none⟩ = some (.pointer (some ⟨b, 0, none⟩)))
    (h3 : w.cell? ⟨R, 2, none⟩ = some (.slice (some ⟨g, 0, none⟩) len cap)) (h4 : w.cell? ⟨g, i, none⟩ = some (.pointer (some ⟨bi, 0, none⟩))) (hi : i < len) (hl : len ≤ 1000) (h5 : BinAt w bi c s) (h6 : BinAt w b 1 f)
    (hc1 : 1 ≤ c) (hc : c < 2 ^ 8) (hs : s < 2 ^ 20) (hf : f < 2 ^ 10) (hT : T = decide (f * c ≤ s)) :
    Calls Tryz.prog 41 #[.int .i64 i, .pointer (some ⟨RB, 0, none⟩), .pointer (some ⟨BB, 0, none⟩)] w fun e w' => e = .returned (.bool T) ∧ ∃ d, w' = w.drewN d := by
  have m1 := fun j => Lib.hid (mean_calls (h5.drewN j) hc1 hc hs)
  have m2 := fun j => Lib.hid (mean_calls (h6.drewN j) (Nat.le_refl 1) (by omega) (by omega))
  have ht := mb_test hc1 hc hs hf
  rw [← hT] at ht
  have hi' : (i : Int) < (len : Int) := by omega
  have hl' : (len : Int) ≤ 1000 := by omega
  have hi0 : (0 : Int) ≤ (i : Int) := by omega
  clear h5 h6 hc1 hc hs hf hT hl
  go_enter Tryz.func41, Tryz.ntmps41
  go_wp2_with fail
  go_quiet ((go_at_call 42; first | (with_reducible exact Calls.quiet_of (m1 _).out) | (with_reducible exact Calls.quiet_of (m2 _).out)))
  go_wp2_with fail
  go_ret
  exact ⟨rfl, _, rfl⟩

set_option maxRecDepth 100000 in
set_option maxHeartbeats 400000 in
theorem search_calls {w : World} {RB BB n k : Nat} (p : Nat → Bool) (hn : n ≤ 1000) (hk : k ≤ n) (hlo : ∀ i, i < k → p i = false) (hhi : ∀ i, k ≤ i → i < n → p i = true)
    (hp : Hid (∀ i j, i < n → Calls Tryz.prog 41 #[.int .i64 (i : Nat), .pointer (some ⟨RB, 0, none⟩), .pointer (some ⟨BB, 0, none⟩)] (w.drewN j) fun r w' => r = .returned (.bool (p i)) ∧ ∃ d, w' = (w.drewN j).drewN d)) :
    Calls Tryz.prog 40 #[.int .i64 n, .func (.func 41) #[] #[.pointer (some ⟨RB, 0, none⟩), .pointer (some ⟨BB, 0, none⟩)]] w fun e w' => e = .returned (.int .i64 k) ∧ ∃ d, w' = w.drewN d := by
  have Hlo := Lib.hid hlo
  have Hhi := Lib.hid hhi
  have Hk := Lib.hid hk
  have hn' : (n : Int) ≤ 1000 := by omega
  have Hn := Lib.hid hn
  clear hlo hhi hk hn
  go_enter Tryz.func40, Tryz.ntmps40
  go_wp2_with fail
  go_loopw [5, 6] (fun s5 s6 wr => ∃ i j d : Nat, s5 = .int .i64 i ∧ s6 = .int .i64 j ∧ Hid (i ≤ k ∧ k ≤ j ∧ j ≤ n) ∧ Hid (wr = w.drewN d))
    (fun s5 s6 _ => (intOf s6 - intOf s5).toNat)
  case atStart => exact ⟨0, n, 0, rfl, rfl, ⟨Nat.zero_le _, Hk.out, Nat.le_refl _⟩, rfl⟩
  case round =>
    obtain ⟨i, j, d, rfl, rfl, hij, hw⟩ := hrel
    obtain ⟨a1, a2, a3⟩ := hij.out
    have hij1 : (i : Int) ≤ (j : Int) := by omega
    have hjn : (j : Int) ≤ 1000 := by have := Hn.out; omega
    rcases Nat.lt_or_ge i j with hlt | hge
    · obtain ⟨h, hh⟩ : ∃ h, h = (i + j) / 2 := ⟨_, rfl⟩
      have hpc := hp.out h d (by omega)
      rw [← hw.out] at hpc
      have e1 : ((i : Int) + (j : Int)) / 2 = (h : Int) := by omega
      have hhi : (h : Int) ≤ 1000 := by omega
      have Hh := Lib.hid (show i ≤ h ∧ h < j by omega)
      have hlo : Hid (p h = false → h < k) := Lib.hid fun e => by
        rcases Nat.lt_or_ge h k with h' | h'
        · exact h'
        · rw [Hhi.out h h' (by omega)] at e; cases e
      have hup : Hid (p h = true → k ≤ h) := Lib.hid fun e => by
        rcases Nat.lt_or_ge h k with h' | h'
        · rw [Hlo.out h h'] at e; cases e
        · exact h'
      obtain ⟨b, hb⟩ : ∃ b, b = p h := ⟨_, rfl⟩
      rw [← hb] at hpc hlo hup
      have Hpc := Lib.hid hpc
      have Hw := Lib.hid (⟨d, hw.out⟩ : ∃ d, wr = w.drewN d)
      clear hpc hb hh hw
      cases b with
      | false =>
        go_wp2_with (go_at_call 41; refine Hpc.out.mono ?_; rintro r w' ⟨rfl, d', rfl⟩)
        go_roundw
        case rel =>
          obtain ⟨d0, hd0⟩ := Hw.out
          have := hlo.out (by simp)
          have := Hh.out
          exact ⟨h + 1, j, d0 + d', by go_num, rfl, ⟨by omega, a2, a3⟩, by rw [hd0, World.drewN_drewN]; rfl⟩
        case measure => have := Hh.out; simp [intOf]; omega
      | true =>
        go_wp2_with (go_at_call 41; refine Hpc.out.mono ?_; rintro r w' ⟨rfl, d', rfl⟩)
        go_roundw
        case rel =>
          obtain ⟨d0, hd0⟩ := Hw.out
          have := hup.out (by simp)
          have := Hh.out
          exact ⟨i, h, d0 + d', rfl, rfl, ⟨a1, by omega, by omega⟩, by rw [hd0, World.drewN_drewN]; rfl⟩
        case measure => have := Hh.out; simp [intOf]; omega
    · obtain rfl : i = j := by omega
      obtain rfl : i = k := by omega
      go_wp2_with fail
      go_ret
      exact ⟨rfl, d, hw.out⟩
end Go.Proofs.YthcgojhfbcgaiaaGreat
