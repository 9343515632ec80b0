/- A histogram made, filled and told: New, Insert, Bins, impl.Bins. Conditions: the values lie in memory. -/
import Derived.Test.YthcgojhfbcgaiaaGreatBinG
import Derived.Test.YthcgojhfbcgaiaaGreatVal0
namespace Go.Proofs.YthcgojhfbcgaiaaGreat
open Go.RowKit Go.Sort Go.Proofs

set_option maxRecDepth 100000 in
theorem newH_calls (most : Nat) (w : World) : Calls Tryz.prog 13 #[.int .i64 most] w fun e w' => ∃ H R, e = .returned (.pointer (some ⟨H, 0, none⟩)) ∧
    Res w' w.heap.size H R most 0 (.slice none 0 0) [] ∧ RowKit.Below w.heap.size w w' := by
  go_enter Tryz.func13, Tryz.ntmps13
  go_wp2
  go_ret
  refine ⟨w.heap.size + 1, w.heap.size, rfl, ⟨hp_at _ _ _ (by simp), at_alloc _ (hp_at w _ _ rfl), World.ownsRow_nil _ _ _ _, by simp, by simp, ⟨by omega, by omega, by simp⟩, by simp; omega⟩, ?_⟩
  exact ((RowKit.Below.refl _ _).alloc (Nat.le_refl _) _).alloc (by simp) _

set_option maxRecDepth 100000 in
set_option maxHeartbeats 1000000 in
theorem insertH_calls {w w0 : World} {base H R most n f N t : Nat} {v : Value} {PL : List PBin} (h : Res w base H R most n v PL) (hB : RowKit.Below base w0 w) (hI : Bn.Inv (PL.map (·.2)) N t) (hn : n ≤ 998) (hN : N ≤ 248) (ht : t + f < 2 ^ 20) (hf : f < 2 ^ 10) (hm1 : 1 ≤ most) (hm : most ≤ 999) (hl : PL.length ≤ most) :
    Calls Tryz.prog 14 #[.pointer (some ⟨H, 0, none⟩), .float .f64 (floatOfInt .f64 (f : Int))] w fun e w' => e = .returned (.tuple #[]) ∧
      ∃ v' PL', Res w' base H R most (n + 1) v' PL' ∧ RowKit.Below base w0 w' ∧ Bn.Inv (PL'.map (·.2)) (N + 1) (t + f) ∧ PL'.length ≤ most ∧ ((Bn.ins f (PL.map (·.2))).length ≤ most → PL'.map (·.2) = Bn.ins f (PL.map (·.2))) := by
  obtain ⟨x, hx⟩ : ∃ x, x = floatOfInt .f64 (f : Int) := ⟨_, rfl⟩
  obtain ⟨O, hO⟩ : ∃ O : Obj, O = .cells #[.int .i64 1, .float .f64 x] 44 := ⟨_, rfl⟩
  obtain ⟨b, hb⟩ : ∃ b, b = w.heap.size := ⟨_, rfl⟩
  have hA := h.alloc O
  have hBA := hB.alloc h.sz O
  have bA : BinAt (w.alloc O) b 1 f := by rw [hO, hx]; exact hp_at w _ _ hb
  have hnb : b ∉ PL.map (·.1) := fun e => by
    obtain ⟨z, hz, hzb⟩ := List.mem_map.1 e
    have := lt_of_at (h.bins z hz)
    omega
  have c0 : w.cell? ⟨H, 0, none⟩ = some (.pointer (some ⟨R, 0, none⟩)) := cell_of h.hH rfl
  have hins : Hid (Calls Tryz.prog 23 #[.pointer (some ⟨R, 0, none⟩), .pointer (some ⟨b, 0, none⟩)] (w.alloc O) fun e w' => e = .returned (.tuple #[]) ∧ w'.cell? ⟨H, 0, none⟩ = some (.pointer (some ⟨R, 0, none⟩)) ∧
      Hid (Calls Tryz.prog 24 #[.pointer (some ⟨R, 0, none⟩)] w' fun e w'' => e = .returned (.tuple #[]) ∧ Hid (∃ v' PL', Res w'' base H R most (n + 1) v' PL' ∧ RowKit.Below base w0 w'' ∧ Bn.Inv (PL'.map (·.2)) (N + 1) (t + f) ∧ PL'.length ≤ most ∧ ((Bn.ins f (PL.map (·.2))).length ≤ most → PL'.map (·.2) = Bn.ins f (PL.map (·.2)))))) :=
    Lib.hid ((insertB_calls N t hA hBA bA (by rw [hb]; exact h.sz) hnb (by omega) (by omega) ht hI hf).mono fun e w' ⟨h1, v', PL', h2, h3, h4, h5, h6⟩ => ⟨h1, cell_of h2.hH rfl,
      Lib.hid ((compressB_calls h2 h3 h4 (by omega) ht hm1 hm (by omega)).mono fun e w'' ⟨g1, v'', PL'', g2, g3, g4, g5, g6⟩ => ⟨g1, v'', PL'', g2, g3, g4, g5, fun hl2 => by rw [g6 (by rw [← h6, List.length_map] at hl2; exact hl2), h6]⟩)⟩)
  rw [← hx]
  subst hO
  have Hb := Lib.hid hb
  clear h hB hI hn hN ht hf hm1 hm hl hA hBA bA hnb hb hx
  go_enter Tryz.func14, Tryz.ntmps14
  go_wp2_with (first
    | (go_at_call 23; rw [← Hb.out]; refine hins.out.mono ?_; rintro e w1 ⟨rfl, c1, hC⟩)
    | (go_at_call 24; refine hC.out.mono ?_; rintro e w2 ⟨rfl, hP⟩))
  go_end0
  exact ⟨rfl, hP.out⟩

set_option maxRecDepth 100000 in
theorem binsH_calls {w : World} {base H R most n : Nat} {v : Value} {PL : List PBin} (h : Res w base H R most n v PL) :
    Calls Tryz.prog 15 #[.pointer (some ⟨H, 0, none⟩)] w fun e w' => e = .returned v ∧ w = w' := by
  obtain ⟨oa, oc, rfl⟩ := h.slice
  have c0 : w.cell? ⟨H, 0, none⟩ = some (.pointer (some ⟨R, 0, none⟩)) := cell_of h.hH rfl
  have c1 : w.cell? ⟨R, 2, none⟩ = some (.slice oa PL.length oc) := cell_of h.hR rfl
  clear h
  go_enter Tryz.func15, Tryz.ntmps15
  go_wp2_with fail
  go_ret
  exact ⟨rfl, rfl⟩
end Go.Proofs.YthcgojhfbcgaiaaGreat
