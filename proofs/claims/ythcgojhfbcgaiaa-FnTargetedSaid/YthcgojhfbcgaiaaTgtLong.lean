/- spec.Long: what it tells. No condition. -/
import Derived.Test.YthcgojhfbcgaiaaVals
import Derived.Test.YthcgojhfbcgaiaaTgtDis
namespace Go.Proofs.Ythcgojhfbcgaiaa
open Go.RowKit Go.Sort Go.Proofs

set_option maxRecDepth 100000 in
set_option maxHeartbeats 1000000 in
theorem long_calls (many step : Nat) (hm : many < 65536) (hs : step < 65536) (w : World) :
    Calls Try.prog 7 #[.int .u16 many, .int .u16 step] w fun r w' => ∃ v, r = .returned v ∧
      w'.ownsRow w.heap.size 26 1 v (1 + many % 1200) ((List.range (1 + many % 1200)).map fun i => .float .f64 (fN (lng (1 + step % 1200) i)).b) ∧ RowKit.Below w.heap.size w w' := by
  obtain ⟨i0, hi, hz0, hz1, hz2⟩ := info_parts info_f64
  obtain ⟨s0, hs0⟩ : ∃ s0, s0 = step % 1200 := ⟨_, rfl⟩
  obtain ⟨m0, hm0⟩ : ∃ m0, m0 = many % 1200 := ⟨_, rfl⟩
  have e1 : (step : Int) % 1200 = (s0 : Int) := by omega
  have e2 : (many : Int) % 1200 = (m0 : Int) := by omega
  rw [← hs0, ← hm0]
  obtain ⟨N, hN⟩ : ∃ N, N = 1 + m0 := ⟨_, rfl⟩
  have e3 : 1 + (m0 : Int) = (N : Int) := by omega
  rw [← hN]
  have hs12 : s0 < 1200 := by omega
  have hN12 : N ≤ 1200 := by omega
  obtain ⟨s1, hs1⟩ : ∃ s1, s1 = 1 + s0 := ⟨_, rfl⟩
  have e4 : 1 + (s0 : Int) = (s1 : Int) := by omega
  rw [← hs1]
  have hs11 : s1 ≤ 1200 := by omega
  obtain ⟨g, hg⟩ : ∃ g : Nat → Nat, g = fun (j : Nat) => floatOfInt .f64 (((j * s1 : Nat) : Int) % 1201) := ⟨_, rfl⟩
  have hgv : ∀ j, g j = (fN (lng s1 j)).b := fun j => by
    have := lng_lt s1 j
    rw [hg, fN_b _ (by omega)]
    show floatOfInt .f64 _ = _
    congr 1
  have hgk := fun j => congrFun hg j
  have HG := Lib.hid hgv
  have HGK := Lib.hid hgk
  have HS11 := Lib.hid hs11
  have HN12 := Lib.hid hN12
  have hNi : (N : Int) ≤ 1200 := by omega
  have hb0 : (step : Int) ≤ 65535 := by omega
  have hb1 : (many : Int) ≤ 65535 := by omega
  clear hgv hg hgk hN hs0 hm0 hm hs hs1 hs11 hs12 hN12
  go_enter Try.func7, Try.ntmps7
  go_wp2_with fail
  go_loopw [13, 6] (fun i v wr => ∃ k : Nat, k ≤ N ∧ i = .int .i64 k ∧ Hid (wr.ownsRow w.heap.size 26 1 v k ((List.range k).map fun i => .float .f64 (g i))) ∧ (∃ oa oc, v = .slice oa k oc) ∧ Hid (RowKit.Below w.heap.size w wr))
    (fun i _ _ => N - (intOf i).toNat)
  case atStart => exact ⟨0, Nat.zero_le _, rfl, Lib.hid (World.ownsRow_nil _ _ _ _), ⟨_, _, rfl⟩, Lib.hid (RowKit.Below.refl _ _)⟩
  case round =>
    obtain ⟨k, hk, rfl, hown, ⟨oa, oc, rfl⟩, hbl⟩ := hrel
    have hkk : (k : Int) ≤ 1200 := by omega
    clear hb1 e2 e3
    obtain ⟨P, hP⟩ : ∃ P, P = k * s1 := ⟨_, rfl⟩
    have hPb : P ≤ 1440000 := by rw [hP]; exact Nat.mul_le_mul (show k ≤ 1200 by omega) HS11.out
    have hPi : (P : Int) ≤ 1440000 := by omega
    have e5 : (k : Int) * (s1 : Int) = (P : Int) := by rw [hP, Int.natCast_mul]
    have hgk := HGK.out k
    rw [← hP] at hgk
    have HGk := Lib.hid hgk
    clear hgk hPb hP
    have hww := hbl.out.size
    go_wp2_with (first
      | (at_builtin; refine wpList_append_own _ rfl (.tmp 16) (.tmp 25) 23 rfl w.heap.size 26 i0 (.float .f64 0) 1 8 Try.underlying23 hi hz0 hz1 hz2 rfl (by decide) _ _ _ rfl (hown.out.alloc _) ⟨wr.heap.size, 0, none⟩ 1 1 [.float .f64 (g k)] rfl rfl ?c1 ?c2 ?c3 ?c4 ?c5 ?_))
    case c1 =>
      intro j u hj
      match j, hj with
      | 0, hj => simp at hj; subst hj; rw [HGk.out]; simp [Addr.add]
    case c2 => intro u hu; simp at hu; subst hu; rfl
    case c3 => unfold maxLen; omega
    case c4 => omega
    case c5 => simp; omega
    · intro v' w1 hown' hgrow hv'
      have hlt : k < N := by assumption
      have hb1 : RowKit.Below w.heap.size w w1 := by
        have hA := hbl.out.alloc hbl.out.size (.cells #[.float .f64 (floatOfInt .f64 ((P : Int) % 1201))] 26)
        refine hA.grown hgrow (by simp; omega) fun q hq => ?_
        exact (hown.out.lt q hq).1
      have HO := Lib.hid hown'
      have HB := Lib.hid hb1
      have HV := Lib.hid hv'
      clear hown' hgrow hb1 hv'
      go_wp2
      go_roundw
      case rel => exact ⟨k + 1, by omega, by go_num, Lib.hid (by have := HO.out; rw [List.range_succ, List.map_append]; exact this), own_slice HO.out, HB⟩
      case measure => simp [intOf]; omega
    · have h1 : ¬ k < N := by assumption
      obtain rfl : k = N := by omega
      go_ret
      refine ⟨_, rfl, ?_, hbl.out⟩
      have := hown.out
      rw [List.map_congr_left (g := fun i => Value.float .f64 (fN (lng s1 i)).b) (fun i hi => by rw [HG.out i])] at this
      exact this
end Go.Proofs.Ythcgojhfbcgaiaa
