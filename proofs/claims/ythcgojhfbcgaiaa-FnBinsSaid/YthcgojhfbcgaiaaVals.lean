/- spec.Values: what it tells of bytes. Condition: the bytes lie in memory. -/
import Derived.Test.YthcgojhfbcgaiaaVal0
import Derived.WalkKit
import Derived.OwnWalk
namespace Go.Proofs.Ythcgojhfbcgaiaa
open Go.RowKit Go.Sort Go.Proofs

/-- What spec.Values tells at place j: the number before it is made a float. -/
def vInt (z : Nat → Nat) (j : Nat) : Nat := (z j * 7 + j * 31) % 1000

set_option maxRecDepth 100000 in
set_option maxHeartbeats 1000000 in
theorem values_calls (a : Option Addr) (len cap most : Nat) (z : Nat → Nat) (hmost : most ≤ 100000) (hz : ∀ j, z j < 256) (w : World) (hlen : len ≤ maxLen)
    (hc : 0 < len → ∃ b off, a = some ⟨b, off, none⟩ ∧ b < w.heap.size ∧ ∀ j, j < len → w.cell? ⟨b, off + j, none⟩ = some (.int .u8 (z j))) :
    Calls Try.prog 12 #[.slice a len cap, .int .i64 most] w fun r w' => ∃ v, r = .returned v ∧
      w'.ownsRow w.heap.size 26 1 v (min len most) ((List.range (min len most)).map fun i => .float .f64 (fN (vInt z i)).b) ∧ RowKit.Below w.heap.size w w' := by
  rcases Nat.eq_zero_or_pos len with h0 | hpos
  · subst h0
    clear hc hlen
    go_enter Try.func12, Try.ntmps12
    go_wp2_with fail
    refine wp_loop_rounds 1 ?_
    rw [rounds_succ]
    go_wp2_with fail
    go_ret
    refine ⟨_, rfl, ?_, RowKit.Below.refl _ _⟩
    simp
    exact World.ownsRow_nil _ _ _ _
  obtain ⟨b, off, rfl, hb, hcell⟩ := hc hpos
  obtain ⟨i0, hi, hz0, hz1, hz2⟩ := info_parts info_f64
  obtain ⟨g, hg⟩ : ∃ g : Nat → Nat, g = fun j => floatOfInt .f64 (((z j : Int) * 7 + j * 31) % 1000) := ⟨_, rfl⟩
  have hgv : ∀ j, j < 100000 → g j = (fN (vInt z j)).b := fun j hj => by
    rw [hg, fN_b _ (by unfold vInt; omega)]
    unfold vInt
    have := hz j
    congr 1
  have hgk := fun j => congrFun hg j
  have HG := Lib.hid hgv
  have HZ := Lib.hid hz
  have HC := Lib.hid hcell
  have HGK := Lib.hid hgk
  clear hc hgv hz hcell hg hgk
  go_enter Try.func12, Try.ntmps12
  go_wp2_with fail
  go_loopw [10, 5] (fun i v wr => ∃ k : Nat, k ≤ len ∧ k ≤ most ∧ i = .int .i64 k ∧ Hid (wr.ownsRow w.heap.size 26 1 v k ((List.range k).map fun i => .float .f64 (g i))) ∧ (∃ oa oc, v = .slice oa k oc) ∧ Hid (RowKit.Below w.heap.size w wr))
    (fun i _ _ => len - (intOf i).toNat)
  case atStart => exact ⟨0, Nat.zero_le _, Nat.zero_le _, rfl, Lib.hid (World.ownsRow_nil _ _ _ _), ⟨_, _, rfl⟩, Lib.hid (RowKit.Below.refl _ _)⟩
  case round =>
    obtain ⟨k, hk, hkm, rfl, hown, ⟨oa, oc, rfl⟩, hbl⟩ := hrel
    have hcx : k < len → wr.cell? ⟨b, off + k, none⟩ = some (.int .u8 (z k)) := fun h => (hbl.out.cell (by exact hb)).trans (HC.out k h)
    have hzk := HZ.out k
    have hzk' : (z k : Int) < 256 := by omega
    have hkk : (k : Int) ≤ 100000 := by omega
    have hww := hbl.out.size
    go_wp2_with (first
      | (at_builtin; refine wpList_append_own _ rfl (.tmp 19) (.tmp 28) 23 rfl w.heap.size 26 i0 (.float .f64 0) 1 8 Try.underlying23 hi hz0 hz1 hz2 rfl (by decide) _ _ _ rfl (hown.out.alloc _) ⟨wr.heap.size, 0, none⟩ 1 1 [.float .f64 (g k)] rfl rfl ?c1 ?c2 ?c3 ?c4 ?c5 ?_))
    case c1 =>
      intro j u hj
      match j, hj with
      | 0, hj => simp at hj; subst hj; simp [Addr.add, HGK.out k]
    case c2 => intro u hu; simp at hu; subst hu; rfl
    case c3 => unfold maxLen; omega
    case c4 => omega
    case c5 => simp; omega
    · have h1 : k = most := by
        have : ((k : Int) == (most : Int)) = true := by assumption
        have h2 : (k : Int) = most := by simpa using this
        omega
      subst h1
      go_ret
      refine ⟨_, rfl, ?_, hbl.out⟩
      rw [show min len k = k by omega]
      have := hown.out
      rw [List.map_congr_left (g := fun i => Value.float .f64 (fN (vInt z i)).b) (fun i hi => by rw [HG.out i (by simp at hi; omega)])] at this
      exact this
    · intro v' w1 hown' hgrow hv'
      have hne : ¬ k = most := by
        have : ((k : Int) == (most : Int)) = false := by assumption
        intro h; subst h; simp at this
      have hlt : k < len := by assumption
      have hb1 : RowKit.Below w.heap.size w w1 := by
        have hA := hbl.out.alloc hbl.out.size (.cells #[.float .f64 (floatOfInt .f64 (((z k : Int) * 7 + k * 31) % 1000))] 26)
        refine hA.grown hgrow (by simp; omega) fun q hq => ?_
        exact (hown.out.lt q hq).1
      have HO := Lib.hid hown'
      have HB := Lib.hid hb1
      have HV := Lib.hid hv'
      clear hown' hgrow hb1 hv' hcx
      go_wp2
      go_roundw
      case rel => exact ⟨k + 1, by omega, by omega, by go_num, Lib.hid (by have := HO.out; rw [List.range_succ, List.map_append]; exact this), own_slice HO.out, HB⟩
      case measure => simp [intOf]; omega
    · have h1 : ¬ k < len := by assumption
      obtain rfl : k = len := by omega
      go_ret
      refine ⟨_, rfl, ?_, hbl.out⟩
      rw [show min k most = k by omega]
      have := hown.out
      rw [List.map_congr_left (g := fun i => Value.float .f64 (fN (vInt z i)).b) (fun i hi => by rw [HG.out i (by simp at hi; omega)])] at this
      exact this
end Go.Proofs.Ythcgojhfbcgaiaa
