/- A histogram's bins in memory: Mean, Update, gapWeight. Conditions: the bins lie in memory. -/
import Derived.Test.YthcgojhfbcgaiaaGreatHeap
import Derived.Test.YthcgojhfbcgaiaaGreatBinNum
import Derived.WalkKit
import Derived.WalkLawsBesides
import Derived.Deep.RegionHeld3
import Derived.Deep.RegionLaw
import Derived.StillTailTactics
namespace Go.Proofs.YthcgojhfbcgaiaaGreat
open Go.RowKit Go.Proofs

theorem run_quo' {x y r : Nat} (h : Ieee.double.div x y = some r) (w : World) : (binOp .quo 34 (.float .f64 x) (.float .f64 y)).run Tryz.prog w = .ok (.float .f64 r) w := run_float_arith _ _ _ _ _ _ _ h
theorem run_fadd' {x y r : Nat} (h : Ieee.double.add x y = some r) (w : World) : (binOp .add 34 (.float .f64 x) (.float .f64 y)).run Tryz.prog w = .ok (.float .f64 r) w := run_float_arith _ _ _ _ _ _ _ h
theorem run_fsub' {x y r : Nat} (h : Ieee.double.sub x y = some r) (w : World) : (binOp .sub 34 (.float .f64 x) (.float .f64 y)).run Tryz.prog w = .ok (.float .f64 r) w := run_float_arith _ _ _ _ _ _ _ h

/-- A bin in memory. -/
def BinAt (w : World) (b c s : Nat) : Prop := w.heap[b]? = some (.cells #[.int .i64 c, .float .f64 (floatOfInt .f64 (s : Int))] 44)
theorem BinAt.drewN {w : World} {b c s : Nat} (h : BinAt w b c s) (d : Nat) : BinAt (w.drewN d) b c s := h

set_option maxRecDepth 100000 in
theorem mean_calls {w : World} {b c s : Nat} (h : BinAt w b c s) (hc1 : 1 ≤ c) (hc : c < 2 ^ 8) (hs : s < 2 ^ 20) :
    Calls Tryz.prog 42 #[.pointer (some ⟨b, 0, none⟩)] w fun e w' => e = .returned (.float .f64 (mb c s)) ∧ ∃ d, w' = w.drewN d := by
  have c0 := cell_of h (i := 0) rfl
  have c1 := cell_of h (i := 1) rfl
  have q := run_quo' (mb_spec hc1 (by omega) hs).1
  clear h hc1 hc hs
  go_enter Tryz.func42, Tryz.ntmps42
  go_wp2_with fail
  go_quiet (fail)
  go_wp2_with fail
  go_ret
  exact ⟨rfl, _, rfl⟩

set_option maxRecDepth 100000 in
theorem gap_calls {w : World} {b c s b' d t g : Nat} (h : BinAt w b c s) (h' : BinAt w b' d t) (hc1 : 1 ≤ c) (hc : c < 2 ^ 8) (hs : s < 2 ^ 20) (hd1 : 1 ≤ d) (hd : d < 2 ^ 8) (ht : t < 2 ^ 20) (hg : Ieee.double.sub (mb d t) (mb c s) = some g) :
    Calls Tryz.prog 46 #[.pointer (some ⟨b, 0, none⟩), .pointer (some ⟨b', 0, none⟩)] w fun e w' => e = .returned (.float .f64 g) ∧ ∃ d, w' = w.drewN d := by
  have m1 := Lib.hid (mean_calls h' hd1 hd ht)
  have m2 := fun j => Lib.hid (mean_calls (h.drewN j) hc1 hc hs)
  have q := run_fsub' hg
  clear h h' hg hc1 hc hs hd1 hd ht
  go_enter Tryz.func46, Tryz.ntmps46
  go_wp2_with (go_at_call 42; first | ((with_reducible refine m1.out.mono ?_); rintro e w1 ⟨rfl, d1, rfl⟩) | ((with_reducible refine (m2 _).out.mono ?_); rintro e w1 ⟨rfl, d2, rfl⟩))
  go_ret
  exact ⟨rfl, _, rfl⟩

set_option maxRecDepth 100000 in
theorem update_calls {w : World} {b c s b' d t : Nat} (h : BinAt w b c s) (h' : BinAt w b' d t) (hne : b ≠ b') (hc : c < 2 ^ 8) (hs : s < 2 ^ 20) (hd : d < 2 ^ 8) (ht : t < 2 ^ 20) :
    Calls Tryz.prog 45 #[.pointer (some ⟨b, 0, none⟩), .pointer (some ⟨b', 0, none⟩)] w fun e w' => e = .returned (.tuple #[]) ∧
      ∃ d', w' = ((w.setCell ⟨b, 0, none⟩ (.int .i64 ((c + d : Nat) : Int))).setCell ⟨b, 1, none⟩ (.float .f64 (floatOfInt .f64 ((s + t : Nat) : Int)))).drewN d' := by
  obtain ⟨x, hx⟩ : ∃ x, x = floatOfInt .f64 (s : Int) := ⟨_, rfl⟩
  obtain ⟨y, hy⟩ : ∃ y, y = floatOfInt .f64 (t : Int) := ⟨_, rfl⟩
  obtain ⟨z, hz⟩ : ∃ z, z = floatOfInt .f64 ((s + t : Nat) : Int) := ⟨_, rfl⟩
  have q := run_fadd' (x := x) (y := y) (r := z) (by
    rw [hx, hy, hz, FI_FX s (by omega), FI_FX t (by omega), FI_FX (s + t) (by omega)]
    rw [FX_add (by omega) (by omega)]; congr 2; omega)
  unfold BinAt at h h'
  rw [← hx] at h
  rw [← hy] at h'
  rw [← hz]
  have c0 := cell_of h (i := 0) rfl
  have c1 := cell_of h (i := 1) rfl
  have f0 := free_of h (i := 0)
  have f1 := free_of h (i := 1)
  have e0 := cell_of h' (i := 0) rfl
  have e1 := cell_of h' (i := 1) rfl
  have hA := at_set h 0 (.int .i64 ((c : Int) + d))
  have hB := at_set_other (a := ⟨b, 0, none⟩) (.int .i64 ((c : Int) + d)) hne h'
  have g1 := cell_of hA (i := 1) rfl
  have g2 := free_of hA (i := 1)
  have g3 := cell_of hB (i := 1) rfl
  have hci : (c : Int) ≤ 255 := by omega
  have hdi : (d : Int) ≤ 255 := by omega
  rw [Int.natCast_add]
  clear h h' hA hB hx hy hz hne hc hs hd ht
  go_enter Tryz.func45, Tryz.ntmps45
  go_wp2_with fail
  go_still_tail 11, (by kernel_rfl)
  change wpList _ _ _ _ _ w.drew
  go_wp2_with fail
  obtain ⟨wA, hwA⟩ : ∃ wA : World, wA = (w.setCell ⟨b, 0, none⟩ (.int .i64 ((c : Int) + d))).drew := ⟨_, rfl⟩
  rw [← hwA]
  have k1 : wA.cell? ⟨b, 1, none⟩ = some (.float .f64 x) := by rw [hwA]; exact g1
  have k2 : wA.frozen? ⟨b, 1, none⟩ = false := by rw [hwA]; exact g2
  have k3 : wA.cell? ⟨b', 1, none⟩ = some (.float .f64 y) := by rw [hwA]; exact g3
  have HwA := Lib.hid hwA
  clear hwA g1 g2 g3 c0 c1 f0 f1 e0 e1
  go_still_tail 11, (by kernel_rfl)
  change wpList _ _ _ _ _ wA.drew
  go_wp2_with fail
  go_end0
  exact ⟨rfl, 2, by rw [HwA.out]; rfl⟩
end Go.Proofs.YthcgojhfbcgaiaaGreat
