/- spec.Nearest. -/
import Derived.Test.YthcgojhfbcgaiaaSpec
namespace Go.Proofs.Ythcgojhfbcgaiaa
open Go.RowKit Go.Sort Go.Proofs

set_option maxRecDepth 100000 in
theorem nearest_calls (V cap N n : Nat) (hn : n < 256) (val : Nat → FNN) (w : World) (hf : FloatsAt w V N val) (hV : V < w.heap.size) (hpos : 1 ≤ N) (hN : N ≤ 100000) :
    Calls Try.prog 15 #[.slice (some ⟨V, 0, none⟩) N cap, .int .u8 n] w fun e w' => (∃ es : List FNN, es.Perm ((List.range N).map val) ∧ (es.map (·.b)).Pairwise (· ≤ ·) ∧ e = .returned (.float .f64 es[placeOf N (n % 17)]!.b)) ∧ RowKit.Below w.heap.size w w' := by
  obtain ⟨k, hk⟩ : ∃ k, k = n % 17 := ⟨_, rfl⟩
  have hk16 : k ≤ 16 := by omega
  have hNk : N * k ≤ N * 16 := Nat.mul_le_mul_left N hk16
  obtain ⟨p, hp⟩ : ∃ p, p = placeOf N k := ⟨_, rfl⟩
  have hpN : p < N := by rw [hp]; unfold placeOf; omega
  have hs : Hid (Calls Try.prog 29 #[.slice (some ⟨V, 0, none⟩) N cap] w fun e w' => ∃ V' cap' z, e = .returned (.slice (some ⟨V', 0, none⟩) N cap') ∧ w'.cell? ⟨V', p, none⟩ = some (.float .f64 z) ∧
      Hid (∃ es : List FNN, z = es[p]!.b ∧ es.Perm ((List.range N).map val) ∧ (es.map (·.b)).Pairwise (· ≤ ·) ∧ RowKit.Below w.heap.size w w')) :=
    Lib.hid ((sorted_calls V cap N val w hf hV hpos hN).mono fun e w' ⟨V', cap', es, h1, h2, h3, h4, h5, h6, h7⟩ => ⟨V', cap', _, h1, h4 p hpN, ⟨es, rfl, h2, h3, h7⟩⟩)
  have hmod : ((n : Int) % 17) = (k : Int) := by omega
  have hb1 : (0 : Int) ≤ (N : Int) * k := by have := Int.natCast_nonneg (N * k); rwa [Int.natCast_mul] at this
  have hb2 : (N : Int) * k ≤ 1600000 := by rw [← Int.natCast_mul]; omega
  have hmx : max (0 : Int) (((N : Int) * k + 15) / 16 - 1) = (p : Int) := by rw [hp]; unfold placeOf; rw [← Int.natCast_mul]; omega
  have hn' : (n : Int) < 256 := by omega
  rw [← hk, ← hp]
  clear hf hp hNk
  have Hk := Lib.hid hk
  clear hk
  go_enter Try.func15, Try.ntmps15
  go_wp2_with (go_at_call 29; refine hs.out.mono ?_; rintro e w1 ⟨V', cap', z, rfl, hcell, hE⟩)
  go_ret
  obtain ⟨es, rfl, h1, h2, h3⟩ := hE.out
  exact ⟨⟨es, h1, h2, rfl⟩, h3⟩
end Go.Proofs.Ythcgojhfbcgaiaa
