/- laws.FnTargeted, walked. -/
import Derived.Test.YthcgojhfbcgaiaaTgtMany
import Derived.Test.YthcgojhfbcgaiaaTgtLong
import Derived.Test.YthcgojhfbcgaiaaTgtRN
import Derived.OwnWalk
namespace Go.Proofs.Ythcgojhfbcgaiaa
open Go.RowKit Go.Sort Go.Proofs

theorem u16_wf {x : Int} (h : (Lit.int .u16 x).wf = true) : 0 ≤ x ∧ x < 65536 := by
  have h1 : IntKind.u16.min = 0 := rfl
  have h2 : IntKind.u16.max = 65535 := rfl
  simp only [Lit.wf, Bool.and_eq_true, decide_eq_true_eq] at h
  omega
theorem byte_wf' {x : Int} (h : (Lit.int .u8 x).wf = true) : 0 ≤ x ∧ x < 256 := by
  have h1 : IntKind.u8.min = 0 := rfl
  have h2 : IntKind.u8.max = 255 := rfl
  simp only [Lit.wf, Bool.and_eq_true, decide_eq_true_eq] at h
  omega
set_option maxRecDepth 100000 in
theorem lawT (many step n : Nat) (hm : many < 65536) (hs : step < 65536) (hn : n < 256) (w : World) :
    Calls Try.prog 3 #[.int .u16 many, .int .u16 step, .int .u8 n] w fun e w' => e = .returned (.bool true) ∧ RowKit.Below w.heap.size w w' := by
  obtain ⟨N, hN⟩ : ∃ N, N = 1 + many % 1200 := ⟨_, rfl⟩
  obtain ⟨s, hsd⟩ : ∃ s, s = 1 + step % 1200 := ⟨_, rfl⟩
  obtain ⟨v, hv⟩ : ∃ v : Nat → Nat, v = fun i => lng s i := ⟨_, rfl⟩
  have hN1 : 1 ≤ N := by omega
  have hN12 : N ≤ 1200 := by omega
  have hlong : Hid (Calls Try.prog 7 #[.int .u16 many, .int .u16 step] w fun r w' => ∃ V oc, r = .returned (.slice (some ⟨V, 0, none⟩) N oc) ∧
      Hid (RowKit.Below w.heap.size w w' ∧ w.heap.size ≤ V ∧ V < w'.heap.size ∧ FloatsAt w' V N (fun i => fN (v i)))) := Lib.hid (by
    refine (long_calls many step hm hs w).mono ?_
    rintro r w' ⟨vv, rfl, ho, hb⟩
    rw [← hN, ← hsd] at ho
    rcases floats_of_own (val := fun i => fN (lng s i)) ho with ⟨_, h0⟩ | ⟨V, cap', rfl, _, _, h3, h4, h5, _⟩
    · omega
    · exact ⟨V, cap', rfl, hb, h3, h4, by rw [hv]; exact h5⟩)
  obtain ⟨k, hk⟩ : ∃ k, k = n % 17 := ⟨_, rfl⟩
  have hki : (n : Int) % 17 = (k : Int) := by omega
  have hni : (n : Int) ≤ 255 := by omega
  have hsane := fun w => Lib.hid (sane_calls w)
  by_cases hk0 : k = 0 ∨ k = 16
  · rcases hk0 with h0 | h0 <;> (
      subst h0
      clear hN hsd hv hN1 hN12 hk hm hs hn
      go_enter Try.func3, Try.ntmps3
      go_wp2_with (first
        | (go_at_call 7; refine hlong.out.mono ?_; rintro e w1 ⟨V, oc, rfl, hE⟩)
        | (go_at_call 8; refine (hsane _).out.mono ?_; rintro e w2 ⟨rfl, hb2⟩; have HB2 := Lib.hid hb2; clear hb2))
      go_ret
      exact ⟨rfl, hE.out.1.trans (HB2.out.mono hE.out.1.size)⟩)
  have hk1 : 1 ≤ k := by omega
  have hk15 : k ≤ 15 := by omega
  have hvd : ∀ i j, i < j → j < N → v i ≠ v j := fun i j h1 h2 => by rw [hv]; exact lng_inj (by omega) (by omega) (by omega) h1
  have hvb : ∀ i, v i < 2 ^ 40 := fun i => by rw [hv]; have := lng_lt s i; show lng s i < _; omega
  have hpart : Hid (∀ w, Calls Try.prog 10 #[.int .u8 n] w fun e w' => e = .returned (.float .f64 (FX (k : Int))) ∧ w = w') := Lib.hid (by rw [hk]; exact fun w => part_calls n hn w)
  have htg : Hid (∀ V oc w1, FloatsAt w1 V N (fun i => fN (v i)) → V < w1.heap.size → Calls Try.prog 9 #[.slice (some ⟨V, 0, none⟩) N oc, .float .f64 (FX (k : Int)), .float .f64 4581421828931458171] w1 fun e w' => ∃ b, e = .returned (.tuple #[.float .f64 b, .int .i64 N]) ∧
      Hid (RowKit.Below w1.heap.size w1 w' ∧ ∀ cap w2, FloatsAt w2 V N (fun i => fN (v i)) → Calls Try.prog 11 #[.slice (some ⟨V, 0, none⟩) N cap, .float .f64 b, .int .u8 n, .float .f64 4581421828931458171] w2 fun e w' => e = .returned (.bool true) ∧ w2 = w')) :=
    Lib.hid fun V oc w1 h1 h2 => (Targeted_ranks V oc N k v w1 h1 h2 hN1 hN12 hk1 hk15 hvd hvb).mono fun e w' ⟨⟨x, h3, h4, h5, h6⟩, h7⟩ => ⟨_, h6, h7, fun cap w2 hf => by
      obtain ⟨i, _, hx⟩ := part_mem h3
      rw [hk] at h4 h5
      exact ranknear_calls V cap N n x v w2 hf hN12 hn hvb (by rw [hx]; exact hvb _) h3 h4 h5⟩
  obtain ⟨kf, hkf⟩ : ∃ kf, kf = FX (k : Int) := ⟨_, rfl⟩
  rw [← hkf] at hpart htg
  have hk0i : ((k : Int) == 0) = false := by simp; omega
  have hk16i : ((k : Int) == 16) = false := by simp; omega
  clear hN hsd hv hN1 hN12 hk hm hs hn hvd hvb hkf hk0 hk1 hk15
  go_enter Try.func3, Try.ntmps3
  go_wp2_with (first
    | (go_at_call 7; refine hlong.out.mono ?_; rintro e w1 ⟨V, oc, rfl, hE⟩)
    | (go_at_call 10; refine (hpart.out _).mono ?_; rintro e w2 ⟨rfl, rfl⟩)
    | (go_at_call 9; refine (htg.out V oc w1 hE.out.2.2.2 hE.out.2.2.1).mono ?_; rintro e w3 ⟨b, rfl, hT⟩)
    | (go_at_call 11; refine (hT.out.2 oc w3 (hE.out.2.2.2.below hT.out.1 hE.out.2.2.1)).mono ?_; rintro e w4 ⟨rfl, rfl⟩)
    | (go_at_call 8; refine (hsane _).out.mono ?_; rintro e w5 ⟨rfl, hb5⟩; have HB5 := Lib.hid hb5; clear hb5))
  go_ret
  have b0 := hE.out.1
  have b1 := hT.out.1
  have b3 := HB5.out
  have s0 := b0.size
  have s1 := b1.size
  exact ⟨rfl, (b0.trans (b1.mono s0)).trans (b3.mono (by omega))⟩
end Go.Proofs.Ythcgojhfbcgaiaa
