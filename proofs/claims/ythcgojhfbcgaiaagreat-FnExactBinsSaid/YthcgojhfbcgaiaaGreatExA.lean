/- spec.Small; spec.Sorted on whole numbers and on nothing. Conditions: the rows lie in memory. -/
import Derived.Test.YthcgojhfbcgaiaaGreatSpec
import Derived.Test.YthcgojhfbcgaiaaGreatPerm
namespace Go.Proofs.YthcgojhfbcgaiaaGreat
open Go.RowKit Go.Sort Go.Proofs

theorem fN_mono {a b : Nat} (ha : a < 2 ^ 40) (hb : b < 2 ^ 40) (h : (fN a).b ≤ (fN b).b) : a ≤ b := by
  rw [fN_b a (by omega), fN_b b (by omega), FI_FX a (by omega), FI_FX b (by omega)] at h
  have := (FP_le (p := 4) (q := 4) (j := 16 * a) (l := 16 * b) (by omega) (by omega) (by omega) (by omega)).1 (by rw [← FX_FP, ← FX_FP]; exact h)
  omega

/-- spec.Sorted on whole numbers. -/
theorem sortedN_calls (V cap N : Nat) (f : Nat → Nat) (w : World) (hf : FloatsAt w V N (fun i => fN (f i))) (hV : V < w.heap.size) (hpos : 1 ≤ N) (hN : N ≤ 100000) (hb : ∀ i, f i < 2 ^ 40) :
    Calls Tryz.prog 4 #[.slice (some ⟨V, 0, none⟩) N cap] w fun e w' => ∃ (V' cap' : Nat) (bs : List Nat), e = .returned (.slice (some ⟨V', 0, none⟩) N cap') ∧
      bs.Perm ((List.range N).map f) ∧ bs.Pairwise (· ≤ ·) ∧ FloatsAt w' V' N (fun i => fN bs[i]!) ∧ w.heap.size ≤ V' ∧ V' < w'.heap.size ∧ RowKit.Below w.heap.size w w' := by
  refine (sorted_calls V cap N _ w hf hV hpos hN).mono ?_
  rintro e w' ⟨V', cap', es, rfl, h1, h2, h3, h4, h5, h6⟩
  obtain ⟨bs, p1, rfl⟩ := perm_map_inv fN h1 ((List.range N).map f) (by rw [List.map_map]; rfl)
  have hbl : bs.length = N := by rw [p1.length_eq]; simp
  refine ⟨V', cap', bs, rfl, p1, ?_, fun i hi => (h3 i hi).trans ?_, h4, h5, h6⟩
  · rw [List.map_map, List.pairwise_map] at h2
    refine h2.imp_of_mem fun {a b} ha hb' h => ?_
    have ma := p1.subset ha
    have mb := p1.subset hb'
    simp at ma mb
    obtain ⟨i, _, rfl⟩ := ma
    obtain ⟨j, _, rfl⟩ := mb
    exact fN_mono (hb i) (hb j) h
  · show some (Value.float .f64 (bs.map fN)[i]!.b) = some (.float .f64 (fN bs[i]!).b)
    rw [getElem!_pos (bs.map fN) i (by simp; omega), getElem!_pos bs i (by omega)]; simp

set_option maxRecDepth 100000 in
set_option maxHeartbeats 1000000 in
theorem sorted_nil (w : World) : Calls Tryz.prog 4 #[.slice none 0 0] w fun e w' => e = .returned (.slice none 0 0) ∧ RowKit.Below w.heap.size w w' := by
  have hcl := Lib.hid (AnyE.slices_Clone_nil Tryz.laysSlE041_f11 0 0 w)
  go_enter Tryz.func4, Tryz.ntmps4
  go_wp2_with (first | (go_at_call 11; refine hcl.out.mono ?_; rintro e w1 ⟨rfl, rfl⟩) | go_in)
  refine wp_loop_rounds 1 ?_
  rw [rounds_succ]
  go_wp2_with go_in
  refine wp_loop_rounds 1 ?_
  rw [rounds_succ]
  go_wp2_with go_in
  go_end0
  go_wp2_with go_in
  refine bodyPost_ret (results_none rfl _ _ _) rfl ?_
  go_wp2_with go_in
  go_end0
  go_wp2_with go_in
  go_ret
  exact ⟨rfl, RowKit.Below.refl _ _⟩

set_option maxRecDepth 100000 in
set_option maxHeartbeats 1000000 in
theorem small_calls (a : Option Addr) (len cap most : Nat) (z : Nat → Nat) (hmost : most ≤ 1000) (hz : ∀ j, z j < 256) (w : World) (hlen : len ≤ maxLen)
    (hc : 0 < len → ∃ b off, a = some ⟨b, off, none⟩ ∧ b < w.heap.size ∧ ∀ j, j < len → w.cell? ⟨b, off + j, none⟩ = some (.int .u8 (z j))) :
    Calls Tryz.prog 5 #[.slice a len cap, .int .i64 most] w fun r w' => ∃ v, r = .returned v ∧
      w'.ownsRow w.heap.size 34 1 v (min len most) ((List.range (min len most)).map fun i => .float .f64 (fN (z i % 10)).b) ∧ RowKit.Below w.heap.size w w' ∧ (min len most = 0 → v = .slice none 0 0) := by
  obtain ⟨i0, hi, hz0, hz1, hz2⟩ := info_parts info_f64
  obtain ⟨N, hN⟩ : ∃ N, N = min len most := ⟨_, rfl⟩
  have hNl : N ≤ len := by omega
  have hNm : N ≤ most := by omega
  have hor : N = len ∨ N = most := by omega
  have HC := Lib.hid hc
  have HZ := Lib.hid hz
  have Hor := Lib.hid hor
  have Hm := Lib.hid hmost
  have hmi : (most : Int) ≤ 1000 := by omega
  have hleni : (len : Int) ≤ 9223372036854775807 := by unfold maxLen at hlen; omega
  rw [← hN]
  have HNl := Lib.hid hNl
  have HNm := Lib.hid hNm
  clear hc hz hor hN hmost hlen hNl hNm
  go_enter Tryz.func5, Tryz.ntmps5
  go_wp2_with fail
  go_loopw [6, 5] (fun i v wr => ∃ k : Nat, i = .int .i64 k ∧ Hid (k ≤ N) ∧ Hid (wr.ownsRow w.heap.size 34 1 v k ((List.range k).map fun i => .float .f64 (fN (z i % 10)).b)) ∧ (∃ oa oc, v = .slice oa k oc) ∧ Hid (RowKit.Below w.heap.size w wr) ∧ Hid (k = 0 → v = .slice none 0 0))
    (fun i _ _ => N - (intOf i).toNat)
  case atStart => exact ⟨0, rfl, Nat.zero_le _, Lib.hid (World.ownsRow_nil _ _ _ _), ⟨_, _, rfl⟩, Lib.hid (RowKit.Below.refl _ _), Lib.hid (fun _ => rfl)⟩
  case round =>
    obtain ⟨k, rfl, hk, hown, ⟨oa, oc, rfl⟩, hbl, hnil⟩ := hrel
    have hww := hbl.out.size
    rcases Nat.lt_or_ge k N with hlt | hge
    · obtain ⟨b, off, rfl, hb, hcell⟩ := HC.out (by have := HNl.out; omega)
      have hcx : wr.cell? ⟨b, off + k, none⟩ = some (.int .u8 (z k)) := (hbl.out.cell (by exact hb)).trans (hcell k (by have := HNl.out; omega))
      have hzk := HZ.out k
      have hzk' : (z k : Int) ≤ 255 := by omega
      obtain ⟨zk, hzk2⟩ : ∃ zk, zk = z k % 10 := ⟨_, rfl⟩
      have e1 : (z k : Int) % 10 = (zk : Int) := by omega
      have hv : Hid ((fN (z k % 10)).b = floatOfInt .f64 (zk : Int)) := Lib.hid (by rw [← hzk2]; exact fN_b zk (by omega))
      have t1 : (k : Int) < (len : Int) := by have := HNl.out; omega
      have t2 : (k : Int) < (most : Int) := by have := HNm.out; omega
      have HK : Hid (k ≤ 999) := Lib.hid (by have := Hm.out; have := HNm.out; omega)
      clear hcell hzk hzk2
      go_wp2_with (first
        | (at_builtin; refine wpList_append_own _ rfl (.tmp 18) (.tmp 25) 23 rfl w.heap.size 34 i0 (.float .f64 0) 1 8 Tryz.underlying23 hi hz0 hz1 hz2 rfl (by decide) _ _ _ rfl (hown.out.alloc _) ⟨wr.heap.size, 0, none⟩ 1 1 [.float .f64 (floatOfInt .f64 (zk : Int))] rfl rfl ?c1 ?c2 ?c3 ?c4 ?c5 ?_))
      case c1 =>
        intro j u hj
        match j, hj with
        | 0, hj => simp at hj; subst hj; simp [Addr.add]
      case c2 => intro u hu; simp at hu; subst hu; rfl
      case c3 => have := HK.out; unfold maxLen; omega
      case c4 => have := HK.out; omega
      case c5 => simp; omega
      intro v' w1 hown' hgrow hv'
      have hb1 : RowKit.Below w.heap.size w w1 := by
        have hA := hbl.out.alloc hbl.out.size (.cells #[.float .f64 (floatOfInt .f64 (zk : Int))] 34)
        exact hA.grown hgrow (by simp; omega) fun q hq => (hown.out.lt q hq).1
      have HO := Lib.hid hown'
      have HB := Lib.hid hb1
      clear hown' hgrow hb1 hv' hcx
      go_wp2
      go_roundw
      case rel => exact ⟨k + 1, by go_num, Lib.hid (by omega), Lib.hid (by have := HO.out; rw [← hv.out] at this; rw [List.range_succ, List.map_append]; exact this), own_slice HO.out, HB, Lib.hid (fun h => absurd h (by omega))⟩
      case measure => simp [intOf]; omega
    · obtain rfl : k = N := by have := hk.out; omega
      rcases Hor.out with h1 | h1
      · subst h1
        go_wp2_with fail
        go_ret
        exact ⟨_, rfl, hown.out, hbl.out, hnil.out⟩
      · subst h1
        by_cases hlt : (k : Int) < (len : Int)
        · go_wp2_with fail
          go_ret
          exact ⟨_, rfl, hown.out, hbl.out, hnil.out⟩
        · go_wp2_with fail
          go_ret
          exact ⟨_, rfl, hown.out, hbl.out, hnil.out⟩
end Go.Proofs.YthcgojhfbcgaiaaGreat
