/- spec.Close, spec.Same, spec.SameInts on rows that are the same. Conditions: the rows lie in memory. -/
import Derived.Test.YthcgojhfbcgaiaaGreatExB
import Derived.Test.YthcgojhfbcgaiaaGreatShelf
namespace Go.Proofs.YthcgojhfbcgaiaaGreat
open Go.RowKit Go.Sort Go.Proofs

set_option maxRecDepth 100000 in
theorem close_calls (s : Nat) (hs : s < 2 ^ 40) (w : World) : Calls Tryz.prog 18 #[.float .f64 (floatOfInt .f64 (s : Int)), .float .f64 (floatOfInt .f64 (s : Int))] w fun e w' => e = .returned (.bool true) ∧ w = w' := by
  obtain ⟨x, hx⟩ : ∃ x, x = floatOfInt .f64 (s : Int) := ⟨_, rfl⟩
  have q := run_fsub' (x := x) (y := x) (r := 0) (by rw [hx, FI_FX s (by omega), FX_sub (by omega) (by omega), Int.sub_self, FX_zero])
  have ho : (FloatKind.f64.format.order 0 4517329193108106637 == some .lt) = true := by
    show (Ieee.double.order 0 4517329193108106637 == some .lt) = true
    rw [order_pos (by omega) (by omega), Nat.compare_eq_lt.2 (by omega)]; rfl
  rw [← hx]
  clear hx
  go_enter Tryz.func18, Tryz.ntmps18
  go_wp2_with fail
  go_ret
  exact ⟨rfl, rfl⟩

set_option maxRecDepth 100000 in
set_option maxHeartbeats 400000 in
theorem equalFunc_calls (n c1 c2 : Nat) (a1 a2 : Option Addr) (f : Nat → Nat) (w : World) (hn : n ≤ 1000) (hf : ∀ i, f i < 2 ^ 40)
    (h1 : 0 < n → ∃ g, a1 = some ⟨g, 0, none⟩ ∧ ∀ i, i < n → w.cell? ⟨g, i, none⟩ = some (.float .f64 (floatOfInt .f64 (f i : Int)))) (h2 : 0 < n → ∃ g, a2 = some ⟨g, 0, none⟩ ∧ ∀ i, i < n → w.cell? ⟨g, i, none⟩ = some (.float .f64 (floatOfInt .f64 (f i : Int)))) :
    Calls Tryz.prog 17 #[.slice a1 n c1, .slice a2 n c2, .func (.func 18) #[] #[]] w fun e w' => e = .returned (.bool true) ∧ w = w' := by
  have H1 := Lib.hid h1
  have H2 := Lib.hid h2
  have hcl := Lib.hid (fun i w => close_calls (f i) (hf i) w)
  have hni : (n : Int) ≤ 1000 := by omega
  clear h1 h2 hn hf
  go_enter Tryz.func17, Tryz.ntmps17
  go_wp2_with fail
  go_loop [17] (fun s17 => ∃ k : Nat, k ≤ n ∧ s17 = .int .i64 k) (fun s17 => n - (intOf s17).toNat)
  case atStart => exact ⟨0, Nat.zero_le _, rfl⟩
  case round =>
    obtain ⟨k, hk, rfl⟩ := hrel
    rcases Nat.lt_or_ge k n with hlt | hge
    · obtain ⟨g1, rfl, e1⟩ := H1.out (by omega)
      obtain ⟨g2, rfl, e2⟩ := H2.out (by omega)
      have k1 := e1 k hlt
      have k2 := e2 k hlt
      have hc := hcl.out k
      obtain ⟨x, hx⟩ : ∃ x, x = floatOfInt .f64 (f k : Int) := ⟨_, rfl⟩
      rw [← hx] at k1 k2 hc
      have Hc := Lib.hid hc
      have hki : (k : Int) < (n : Int) := by omega
      clear e1 e2 hx hc
      go_wp2_with (go_at_call 18; refine (Hc.out _).mono ?_; rintro e w1 ⟨rfl, rfl⟩)
      go_round
      case rel => exact ⟨k + 1, by omega, by go_num⟩
      case measure => simp [intOf]; omega
    · obtain rfl : k = n := by omega
      go_wp2_with fail
      go_ret
      exact ⟨rfl, rfl⟩

set_option maxRecDepth 100000 in
theorem same_calls (n c1 c2 : Nat) (a1 a2 : Option Addr) (f : Nat → Nat) (w : World) (hn : n ≤ 1000) (hf : ∀ i, f i < 2 ^ 40)
    (h1 : 0 < n → ∃ g, a1 = some ⟨g, 0, none⟩ ∧ ∀ i, i < n → w.cell? ⟨g, i, none⟩ = some (.float .f64 (floatOfInt .f64 (f i : Int)))) (h2 : 0 < n → ∃ g, a2 = some ⟨g, 0, none⟩ ∧ ∀ i, i < n → w.cell? ⟨g, i, none⟩ = some (.float .f64 (floatOfInt .f64 (f i : Int)))) :
    Calls Tryz.prog 9 #[.slice a1 n c1, .slice a2 n c2] w fun e w' => e = .returned (.bool true) ∧ w = w' := by
  have he := Lib.hid (equalFunc_calls n c1 c2 a1 a2 f w hn hf h1 h2)
  clear h1 h2 hn hf
  go_enter Tryz.func9, Tryz.ntmps9
  go_wp2_with (go_at_call 17; refine he.out.mono ?_; rintro e w1 ⟨rfl, rfl⟩)
  go_ret
  exact ⟨rfl, rfl⟩

set_option maxRecDepth 100000 in
theorem sameInts_calls (n c1 c2 : Nat) (a1 a2 : Option Addr) (f : Nat → Nat) (w : World) (hn : n ≤ 1000)
    (h1 : 0 < n → ∃ g, a1 = some ⟨g, 0, none⟩ ∧ ∀ i, i < n → w.cell? ⟨g, i, none⟩ = some (.int .i64 (f i : Int))) (h2 : 0 < n → ∃ g, a2 = some ⟨g, 0, none⟩ ∧ ∀ i, i < n → w.cell? ⟨g, i, none⟩ = some (.int .i64 (f i : Int))) :
    Calls Tryz.prog 8 #[.slice a1 n c1, .slice a2 n c2] w fun e w' => e = .returned (.bool true) ∧ ∃ d, w' = w.drewN d := by
  have he : Hid (Calls Tryz.prog 16 #[.slice a1 n c1, .slice a2 n c2] w fun e w' => e = .returned (.bool true) ∧ ∃ d, w' = w.drewN d) := Lib.hid (by
    rcases Nat.eq_zero_or_pos n with h0 | h0
    · subst h0
      refine (Tryz.slices_Equal_int_empty a1 a2 c1 0 c2 w (by omega)).mono ?_
      rintro e w' ⟨rfl, rfl⟩
      exact ⟨rfl, 0, rfl⟩
    · obtain ⟨g1, rfl, e1⟩ := h1 h0
      obtain ⟨g2, rfl, e2⟩ := h2 h0
      have hg : ∀ j, j < n → ((List.range n).map fun i => (f i : Int)).getD j 0 = (f j : Int) := fun j hj => by simp [hj]
      refine (Tryz.slices_Equal_int g1 0 n c1 g2 0 n c2 ((List.range n).map fun i => (f i : Int)) ((List.range n).map fun i => (f i : Int)) w (by simp) (by simp) (by omega) (by omega) (fun j hj => ?_) (fun j hj => ?_)).mono ?_
      · rw [Nat.zero_add, hg j (by simpa using hj)]; exact e1 j (by simpa using hj)
      · rw [Nat.zero_add, hg j (by simpa using hj)]; exact e2 j (by simpa using hj)
      · rintro e w' ⟨rfl, q, rfl⟩
        exact ⟨by simp, q, rfl⟩)
  clear h1 h2 hn
  go_enter Tryz.func8, Tryz.ntmps8
  go_wp2_with (go_at_call 16; refine he.out.mono ?_; rintro e w1 ⟨rfl, d, rfl⟩)
  go_ret
  exact ⟨rfl, d, rfl⟩

/-- Rows of counts and sums, read. -/
theorem cnt_cells {w : World} {base c : Nat} {a : Option Addr} {L : List Bn.B} (h : w.ownsRow base 3 1 (.slice a L.length c) L.length (cntV L)) (hn : 0 < L.length) : ∃ g, a = some ⟨g, 0, none⟩ ∧ g < w.heap.size ∧ ∀ i, i < L.length → w.cell? ⟨g, i, none⟩ = some (.int .i64 ((((L[i]?).map (·.c)).getD 0 : Nat) : Int)) := by
  rcases h.2 with ⟨_, h2⟩ | ⟨g, cap, cur, h1, h2, h3, h4, h5, h6, h7⟩
  · omega
  · refine ⟨g, by injection h1, lt_of_at h3, fun i hi => cell_of h3 ?_⟩
    have := congrArg (fun l => l[i]?) h7
    simp only [Nat.mul_one] at this
    rw [List.getElem?_take_of_lt hi, Array.getElem?_toList] at this
    rw [this]; simp [cntV, List.getElem?_eq_getElem hi]
theorem sum_cells {w : World} {base c : Nat} {a : Option Addr} {L : List Bn.B} (h : w.ownsRow base 34 1 (.slice a L.length c) L.length (sumV L)) (hn : 0 < L.length) : ∃ g, a = some ⟨g, 0, none⟩ ∧ g < w.heap.size ∧ ∀ i, i < L.length → w.cell? ⟨g, i, none⟩ = some (.float .f64 (floatOfInt .f64 ((((L[i]?).map (·.s)).getD 0 : Nat) : Int))) := by
  rcases h.2 with ⟨_, h2⟩ | ⟨g, cap, cur, h1, h2, h3, h4, h5, h6, h7⟩
  · omega
  · refine ⟨g, by injection h1, lt_of_at h3, fun i hi => cell_of h3 ?_⟩
    have := congrArg (fun l => l[i]?) h7
    simp only [Nat.mul_one] at this
    rw [List.getElem?_take_of_lt hi, Array.getElem?_toList] at this
    rw [this]; simp [sumV, List.getElem?_eq_getElem hi]
end Go.Proofs.YthcgojhfbcgaiaaGreat
