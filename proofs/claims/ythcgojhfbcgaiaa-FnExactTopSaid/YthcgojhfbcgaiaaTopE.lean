/- sort.Sort(sort.Reverse(sm)) of at most twelve: a permutation. Conditions: the row lies in memory. -/
import Derived.Test.YthcgojhfbcgaiaaTopD
namespace Go.Proofs.Ythcgojhfbcgaiaa
open Go.RowKit Go.Maps Go.Proofs

set_option maxRecDepth 100000 in
theorem revLess_calls {w0 w : World} {Q r g cap : Nat} {L : List Nat} (h : Srt w0 w Q r g cap L) {i j : Nat} (hi : i < L.length) (hj : j < L.length) (hl : L.length ≤ 12) :
    Calls Try.prog 164 #[.agg #[.iface 68 (.slice (some ⟨g, 0, none⟩) L.length cap)], .int .i64 i, .int .i64 j] w fun e w' => (∃ b, e = .returned (.bool b)) ∧ Hid (Srt w0 w' Q r g cap L) := by
  obtain ⟨O, hO⟩ : ∃ O : Obj, O = .cells #[.iface 68 (.slice (some ⟨g, 0, none⟩) L.length cap)] 123 := ⟨_, rfl⟩
  have hA := h.alloc O
  have hc := smpLess_calls hA hj hi hl
  have Hc := Lib.hid hc
  have HA := Lib.hid hA
  have hm := mS_Less
  generalize L.length = n at *
  clear h hA hc hi hj hl
  subst hO
  go_enter Try.func164, Try.ntmps164
  go_wp2_with (go_at_call 158; refine Hc.out.mono ?_; rintro e w1 ⟨⟨b, rfl⟩, d, rfl⟩)
  go_ret
  exact ⟨⟨_, rfl⟩, Lib.hid (HA.out.drewN d)⟩

/-- The row under sort, its elements in some order. -/
def Inv (w0 : World) (Q r g cap : Nat) (L : List Nat) (w : World) : Prop := ∃ L', L'.Perm L ∧ Srt w0 w Q r g cap L'
theorem Inv.less {w0 w : World} {Q r g cap : Nat} {L : List Nat} (h : Inv w0 Q r g cap L w) {i j : Nat} (hi : i < L.length) (hj : j < L.length) (hl : L.length ≤ 12) :
    w.cell? ⟨r, 0, none⟩ = some (.iface 68 (.slice (some ⟨g, 0, none⟩) L.length cap)) ∧
    Calls Try.prog 164 #[.agg #[.iface 68 (.slice (some ⟨g, 0, none⟩) L.length cap)], .int .i64 i, .int .i64 j] w fun e w' => (∃ b, e = .returned (.bool b)) ∧ Hid (Inv w0 Q r g cap L w') := by
  obtain ⟨L', hp, hs⟩ := h
  have e := hp.length_eq
  have hc := cell_of hs.hr (i := 0) rfl
  have h2 := revLess_calls hs (i := i) (j := j) (by omega) (by omega) (by omega)
  rw [e] at h2
  exact ⟨by rw [← e]; exact hc, h2.mono fun _ _ ⟨a, b⟩ => ⟨a, Lib.hid ⟨L', hp, b.out⟩⟩⟩
theorem Inv.swap {w0 w : World} {Q r g cap : Nat} {L : List Nat} (h : Inv w0 Q r g cap L w) {i j : Nat} (hi : i < L.length) (hj : j < L.length) (hij : i ≠ j) :
    w.cell? ⟨r, 0, none⟩ = some (.iface 68 (.slice (some ⟨g, 0, none⟩) L.length cap)) ∧
    Calls Try.prog 159 #[.slice (some ⟨g, 0, none⟩) L.length cap, .int .i64 i, .int .i64 j] w fun e w' => e = .returned (.tuple #[]) ∧ Hid (Inv w0 Q r g cap L w') := by
  obtain ⟨L', hp, hs⟩ := h
  have e := hp.length_eq
  have hc := cell_of hs.hr (i := 0) rfl
  have a1 := hs.cell i (by omega)
  have a2 := hs.cell j (by omega)
  have h2 := smpSwap_ne (n := L.length) (c := cap) hi hj hij a1.1 a2.1 a1.2 a2.2
  obtain ⟨L'', hp2, hs2⟩ := hs.swap i j (by omega) (by omega)
  refine ⟨by rw [← e]; exact hc, h2.mono fun _ _ ⟨a, d, b⟩ => ⟨a, Lib.hid ⟨L'', hp2.trans hp, ?_⟩⟩⟩
  rw [b]; exact hs2.drewN d
theorem Inv.drewN {w0 w : World} {Q r g cap : Nat} {L : List Nat} (h : Inv w0 Q r g cap L w) (d : Nat) : Inv w0 Q r g cap L (w.drewN d) := by
  obtain ⟨L', hp, hs⟩ := h
  exact ⟨L', hp, hs.drewN d⟩

set_option maxHeartbeats 2000000 in
set_option maxRecDepth 100000 in
theorem insSort_calls {w0 w : World} {Q r g cap : Nat} {L : List Nat} (h : Inv w0 Q r g cap L w) (hl : L.length ≤ 12) :
    Calls Try.prog 95 #[.iface 121 (.pointer (some ⟨r, 0, none⟩)), .int .i64 0, .int .i64 L.length] w fun e w' => e = .returned (.tuple #[]) ∧ Hid (Inv w0 Q r g cap L w') := by
  have HL : Hid (∀ w, Inv w0 Q r g cap L w → ∀ j, 0 < j → j < L.length → w.cell? ⟨r, 0, none⟩ = some (.iface 68 (.slice (some ⟨g, 0, none⟩) L.length cap)) ∧
    Calls Try.prog 164 #[.agg #[.iface 68 (.slice (some ⟨g, 0, none⟩) L.length cap)], .int .i64 j, .int .i64 ((j : Int) - 1)] w fun e w' => (∃ b, e = .returned (.bool b)) ∧ Hid (Inv w0 Q r g cap L w')) := Lib.hid fun w hw j h0 hj => by
    have := hw.less (i := j) (j := j - 1) hj (by omega) hl
    rw [show ((j - 1 : Nat) : Int) = (j : Int) - 1 by omega] at this
    exact this
  have HS : Hid (∀ w, Inv w0 Q r g cap L w → ∀ j, 0 < j → j < L.length → w.cell? ⟨r, 0, none⟩ = some (.iface 68 (.slice (some ⟨g, 0, none⟩) L.length cap)) ∧
    Calls Try.prog 159 #[.slice (some ⟨g, 0, none⟩) L.length cap, .int .i64 j, .int .i64 ((j : Int) - 1)] w fun e w' => e = .returned (.tuple #[]) ∧ Hid (Inv w0 Q r g cap L w')) := Lib.hid fun w hw j h0 hj => by
    have := hw.swap (i := j) (j := j - 1) hj (by omega) (by omega)
    rw [show ((j - 1 : Nat) : Int) = (j : Int) - 1 by omega] at this
    exact this
  have H0 := Lib.hid h
  obtain ⟨n, hn⟩ : ∃ n, n = L.length := ⟨_, rfl⟩
  rw [← hn] at HL HS ⊢
  have hn' : (n : Int) ≤ 12 := by omega
  have HN : Hid (n ≤ 12) := Lib.hid (by omega)
  clear h hl hn
  go_enter Try.func95, Try.ntmps95
  go_wp2_with fail
  go_loopw [6] (fun vi wr => ∃ i : Nat, vi = .int .i64 i ∧ Hid (1 ≤ i ∧ (i ≤ n ∨ i = 1)) ∧ Hid (Inv w0 Q r g cap L wr)) (fun vi _ => n + 1 - (intOf vi).toNat)
  case atStart => exact ⟨1, by go_num, Lib.hid ⟨by omega, .inr rfl⟩, H0⟩
  case round =>
    obtain ⟨i, rfl, hi, hI⟩ := hrel
    have hi12 : (i : Int) ≤ 12 := by have := hi.out; have := HN.out; omega
    go_wp2_with fail
    · have hlt : Hid (i < n) := Lib.hid (by omega)
      go_loopw [7] (fun vj wr2 => ∃ j : Nat, vj = .int .i64 j ∧ Hid (j ≤ i) ∧ Hid (Inv w0 Q r g cap L wr2)) (fun vj _ => (intOf vj).toNat)
      case atStart => exact ⟨i, rfl, Lib.hid (Nat.le_refl _), hI⟩
      case round =>
        obtain ⟨j, rfl, hj, hJ⟩ := hrel
        have hj12 : (j : Int) ≤ 12 := by have := hj.out; omega
        by_cases h0 : 0 < j
        · obtain ⟨c0, hLs⟩ := HL.out _ hJ.out j h0 (by have := hj.out; have := hlt.out; omega)
          have m1 := mR_Less c0
          have HLs := Lib.hid hLs
          have h0' : (0 : Int) < (j : Int) := by omega
          clear c0 hLs
          go_wp2_with (first
            | (go_at_call 164; refine HLs.out.mono ?_; rintro e w1 ⟨⟨b, rfl⟩, hI1⟩; obtain ⟨c1, hSw⟩ := HS.out _ hI1.out j h0 (by have := hj.out; have := hlt.out; omega); have m2 := mR_Swap c1; have HSw := Lib.hid hSw; clear c1 hSw m1; cases b)
            | (go_at_call 159; refine HSw.out.mono ?_; rintro e w2 ⟨rfl, hI2⟩))
          · exact ⟨⟨i + 1, by go_num, Lib.hid ⟨by omega, .inl (by have := hlt.out; omega)⟩, hI1⟩, by have := hlt.out; simp [intOf]; omega⟩
          · go_roundw
            case rel =>
              (repeat apply Exists.intro)
              refine ⟨⟨j - 1, rfl, Lib.hid (by have := hj.out; omega), hI2⟩, ?_⟩
              rw [decide_eq_true hlt.out, show ((j - 1 : Nat) : Int) = (j : Int) - 1 by omega]
            case measure => simp [intOf]; omega
        · obtain rfl : j = 0 := by omega
          go_wp2_with fail
          exact ⟨⟨i + 1, by go_num, Lib.hid ⟨by omega, .inl (by have := hlt.out; omega)⟩, hJ⟩, by have := hlt.out; simp [intOf]; omega⟩
    · go_end0
      exact ⟨rfl, hI⟩

set_option maxHeartbeats 2000000 in
set_option maxRecDepth 100000 in
theorem pdq_calls {w0 w : World} {Q r g cap : Nat} {L : List Nat} {m : Nat} (h : Inv w0 Q r g cap L w) (hl : L.length ≤ 12) :
    Calls Try.prog 70 #[.iface 121 (.pointer (some ⟨r, 0, none⟩)), .int .i64 0, .int .i64 L.length, .int .i64 m] w fun e w' => e = .returned (.tuple #[]) ∧ Hid (Inv w0 Q r g cap L w') := by
  have hc := Lib.hid (insSort_calls h hl)
  have hn' : (L.length : Int) ≤ 12 := by omega
  generalize L.length = n at *
  clear h hl
  go_enter Try.func70, Try.ntmps70
  go_wp2_with fail
  refine wp_loop_rounds 1 ?_
  rw [rounds_succ]
  go_wp2_with (go_at_call 95; refine hc.out.mono ?_; rintro e w1 ⟨rfl, h1⟩)
  refine bodyPost_ret (results_none rfl _ _ _) rfl ?_
  exact ⟨rfl, h1⟩

set_option maxHeartbeats 2000000 in
set_option maxRecDepth 100000 in
theorem sortR_calls {w0 w : World} {Q r g cap : Nat} {L : List Nat} (h : Inv w0 Q r g cap L w) (hl : L.length ≤ 12) :
    Calls Try.prog 54 #[.iface 121 (.pointer (some ⟨r, 0, none⟩))] w fun e w' => e = .returned (.tuple #[]) ∧ Hid (Inv w0 Q r g cap L w') := by
  have hc := fun m : Nat => Lib.hid (pdq_calls (m := m) h hl)
  have hb : ∀ w, Calls Try.prog 57 #[.int .u64 (L.length : Int)] w fun e w' => (∃ m : Nat, e = .returned (.int .i64 m)) ∧ w' = w := fun w =>
    (Try.bits_Len (L.length : Int) w (by omega) (by omega)).mono fun e w' ⟨a, b⟩ => ⟨⟨_, a⟩, b⟩
  obtain ⟨L', hp, hs⟩ := h
  have c0 := cell_of hs.hr (i := 0) rfl
  have e0 := hp.length_eq
  rw [e0] at c0
  have m1 := mR_Len (v := .slice (some ⟨g, 0, none⟩) L.length cap) c0
  have h0 : Hid (Inv w0 Q r g cap L w) := Lib.hid ⟨L', hp, hs⟩
  have hlen := fun w => Lib.hid (smpLen_calls (some ⟨g, 0, none⟩) L.length cap w)
  have Hb := Lib.hid hb
  have hn' : (L.length : Int) ≤ 12 := by omega
  generalize L.length = n at *
  clear hs hp e0 hl hb c0
  go_enter Try.func54, Try.ntmps54
  go_wp2_with (first
    | (go_at_call 157; refine (hlen _).out.mono ?_; rintro e w1 ⟨rfl, rfl⟩)
    | (go_at_call 57; refine (Hb.out _).mono ?_; rintro e w1 ⟨⟨m, rfl⟩, rfl⟩)
    | (go_at_call 70; refine (hc _).out.mono ?_; rintro e w1 ⟨rfl, h1⟩))
  · refine bodyPost_ret (results_none rfl _ _ _) rfl ?_
    exact ⟨rfl, h0⟩
  · go_end0
    exact ⟨rfl, h1⟩
end Go.Proofs.Ythcgojhfbcgaiaa
