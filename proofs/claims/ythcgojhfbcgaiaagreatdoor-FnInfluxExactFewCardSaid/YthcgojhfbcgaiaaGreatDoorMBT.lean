/- spec.Many: weights from 1 to 9, as many as values, and their sum. Conditions: the bytes lie in memory. spec.Values: what it tells of bytes. Condition: the bytes lie in memory. Bytes that came in, as a row. Bytes that came in, as a row; spec.Values told apart. -/
import Derived.Test.YthcgojhfbcgaiaaGreatDoorMBS
import Derived.WalkKit
import Derived.OwnWalk
import Derived.Test.YthcgojhfbcgaiaaGreatDoorMBK
import Derived.Test.YthcgojhfbcgaiaaGreatDoorMAK

namespace Go.Proofs.YthcgojhfbcgaiaaGreatDoor
open Go.RowKit Go.Proofs

def uOf (len : Nat) (z : Nat → Nat) (i : Nat) : Nat := 1 + if i < len then z i % 9 else 0
theorem uOf_b (len : Nat) (z : Nat → Nat) (i : Nat) : 1 ≤ uOf len z i ∧ uOf len z i ≤ 9 := by unfold uOf; split <;> omega
theorem info_u64 : (Tryz.prog.info? 26).map (fun i => (i.zero, i.size, i.bytes)) = some (some (.int .u64 0), 1, 8) := by kernel_rfl
theorem tU_F : (26 : Nat) ≠ 29 := by decide
theorem far_own {w : World} {b1 b2 s1 s2 n1 n2 : Nat} {e1 e2 : TypeId} {v1 v2 : Value} {x1 x2 : List Value} (h1 : w.ownsRow b1 e1 s1 v1 n1 x1) (h2 : w.ownsRow b2 e2 s2 v2 n2 x2) (he : e1 ≠ e2) : v2.ownBlock = none ∨ v2.ownBlock ≠ v1.ownBlock := by
  rcases h2.2 with ⟨h3, _⟩ | ⟨g, cap, cur, h3, _, h4, _⟩
  · exact .inl (by rw [h3]; rfl)
  · right
    intro e
    rw [h3] at e
    exact own_ne_ty h1 h4 he e.symm

set_option maxRecDepth 100000 in
set_option maxHeartbeats 4000000 in
theorem many_calls {a oa : Option Addr} {len cap N oc : Nat} {z : Nat → Nat} {w : World} (hlen : len ≤ 2 ^ 62) (hz : ∀ j, z j < 256) (hN : N ≤ 300)
    (hc : 0 < len → ∃ b off, a = some ⟨b, off, none⟩ ∧ b < w.heap.size ∧ ∀ j, j < len → w.cell? ⟨b, off + j, none⟩ = some (.int .u8 (z j))) :
    Calls Tryz.prog 7 #[.slice a len cap, .slice oa N oc] w fun e w' => ∃ v1 v2, e = .returned (.tuple #[v1, v2, .int .u64 ((sumU (uOf len z) N : Nat) : Int)]) ∧
      Hid (w'.ownsRow w.heap.size 29 1 v2 N ((List.range N).map fun i => .float .f64 (FI (uOf len z i))) ∧ RowKit.Below w.heap.size w w') := by
  obtain ⟨i0, hi0, hz0, hz1, hz2⟩ := info_parts info_u64
  obtain ⟨j0, hj0, jz0, jz1, jz2⟩ := info_parts info_fl
  have Hz := Lib.hid hz
  have Hc := Lib.hid hc
  have HN := Lib.hid hN
  have hNi : (N : Int) ≤ 300 := by omega
  have hli : (len : Int) ≤ 4611686018427387904 := by omega
  have Hu : Hid (∀ k, sumU (uOf len z) k ≤ k * 9) := Lib.hid fun k => sumU_le (fun i => (uOf_b len z i).2) k
  obtain ⟨u, hu⟩ : ∃ u, u = uOf len z := ⟨_, rfl⟩
  rw [← hu] at Hu ⊢
  have Hue := Lib.hid hu
  clear hz hc hN hlen hu
  go_enter Tryz.func7, Tryz.ntmps7
  go_wp2_with fail
  go_loopw [14, 7, 8, 9] (fun s14 s7 s8 s9 wv => ∃ k : Nat, s14 = .int .i64 k ∧ (∃ b c, s7 = .slice b k c) ∧ (∃ b c, s8 = .slice b k c) ∧ s9 = .int .u64 ((sumU u k : Nat) : Int) ∧ Hid (k ≤ N ∧ RowKit.Below w.heap.size w wv) ∧
      Hid (∃ xs, wv.ownsRow w.heap.size 26 1 s7 k xs) ∧ Hid (wv.ownsRow w.heap.size 29 1 s8 k ((List.range k).map fun i => .float .f64 (FI (u i)))))
    (fun s14 _ _ _ _ => N - (intOf s14).toNat)
  case atStart => exact ⟨0, rfl, ⟨_, _, rfl⟩, ⟨_, _, rfl⟩, rfl, ⟨Nat.zero_le _, RowKit.Below.refl _ _⟩, ⟨_, World.ownsRow_nil _ _ _ _⟩, World.ownsRow_nil _ _ _ _⟩
  case round =>
    obtain ⟨k, rfl, ⟨b7, c7, rfl⟩, ⟨b8, c8, rfl⟩, rfl, hk, ho1, ho2⟩ := hrel
    rcases Nat.lt_or_ge k N with hlt | hge
    · have hki : (k : Int) < (N : Int) := by omega
      have hsz := hk.out.2.size
      have hs := Hu.out k
      have hs2 := Hu.out (k + 1)
      have hk3 := HN.out
      obtain ⟨s, hse⟩ : ∃ s, s = sumU u k := ⟨_, rfl⟩
      obtain ⟨s', hse'⟩ : ∃ s, s = sumU u (k + 1) := ⟨_, rfl⟩
      obtain ⟨uk, huk⟩ : ∃ x, x = u k := ⟨_, rfl⟩
      have hsum : s' = s + uk := by rw [hse', hse, huk, sumU_succ]
      have hsi : (s : Int) ≤ 2700 := by rw [hse]; omega
      have hukb : 1 ≤ uk ∧ uk ≤ 9 := by rw [huk, Hue.out]; exact uOf_b _ _ _
      obtain ⟨xs, ho1x⟩ := ho1.out
      rw [← hse]
      have Hs' := Lib.hid hse'
      have Huk := Lib.hid huk
      have Hsum := Lib.hid hsum
      have hsum2 : (s : Int) + (uk : Int) = (s' : Int) := by omega
      have hs'i : (s' : Int) ≤ 2709 := by omega
      have Ho1 := Lib.hid ho1x
      have Hk3 := Lib.hid hk3
      have Hsz := Lib.hid hsz
      -- the first append's and the second's facts
      clear ho1 ho1x hs hs2 hk3 hse hse' huk hsum hsz
      go_upto_if 20 with fail
      go_cut [11, 14] from 14 to 41 (fun s11 s14 wx => s11 = .int .u64 (uk : Int) ∧ s14 = .int .i64 (k : Int) ∧ wx = wr)
      case first =>
        rcases Nat.lt_or_ge k len with hl | hl
        · have hli2 : (k : Int) < (len : Int) := by omega
          obtain ⟨b, off, rfl, hb, hcell⟩ := Hc.out (by omega)
          have k0 : wr.cell? ⟨b, off + k, none⟩ = some (.int .u8 (z k)) := (hk.out.2.cell (p := ⟨b, off + k, none⟩) hb).trans (hcell k hl)
          have hzk := Hz.out k
          have euk : uk = 1 + z k % 9 := by rw [Huk.out, Hue.out, uOf, if_pos hl]
          obtain ⟨r, hr⟩ : ∃ r, r = z k % 9 := ⟨_, rfl⟩
          have er : (z k : Int) % 9 = (r : Int) := by omega
          have e1 : 1 + (r : Int) = (uk : Int) := by omega
          have hri : (r : Int) ≤ 8 := by omega
          have hzi : (z k : Int) < 256 := by omega
          clear hcell hb euk hr hzk
          go_wp2_with fail
          go_meet
          exact ⟨rfl, rfl, rfl⟩
        · have hli2 : ¬ (k : Int) < (len : Int) := by omega
          have euk : uk = 1 := by rw [Huk.out, Hue.out, uOf, if_neg (by omega)]
          subst euk
          go_wp2_with fail
          go_meet
          exact ⟨rfl, rfl, rfl⟩
      case rest =>
        obtain ⟨rfl, rfl, rfl⟩ := hcut
        have hbase : Hid (w.heap.size ≤ wc.heap.size) := Hsz
        have huki : (uk : Int) ≤ 9 := by omega
        go_wp2_with (at_builtin; refine wpList_append_own _ rfl (.tmp 29) (.tmp 31) 25 rfl w.heap.size 26 i0 (.int .u64 0) 1 8 Tryz.underlying25 hi0 hz0 hz1 hz2 rfl (by decide) _ _ _ rfl (Ho1.out.alloc _) ⟨wc.heap.size, 0, none⟩ 1 1 [.int .u64 (uk : Int)] rfl rfl ?c1 ?c2 ?c3 ?c4 ?c5 ?_)
        case c1 =>
          intro i q hq
          match i, hq with
          | 0, hq => simp at hq; subst hq; simp [Addr.add]
        case c2 => intro q hq; simp at hq; subst hq; rfl
        case c3 => have := Hk3.out; unfold maxLen; omega
        case c4 => have := Hk3.out; omega
        case c5 => have := hbase.out; simp; omega
        intro v9 w3 hown9 hgrow9 hv9
        have hb3 : RowKit.Below w.heap.size w w3 := (hk.out.2.alloc hk.out.2.size (.cells #[.int .u64 (uk : Int)] 26)).grown hgrow9 (by have := hk.out.2.size; simp; omega) fun q hq => (Ho1.out.lt q hq).1
        have ho2' := (ho2.out.alloc (.cells #[.int .u64 (uk : Int)] 26)).kept hgrow9 (far_own (Ho1.out.alloc (.cells #[.int .u64 (uk : Int)] 26)) (ho2.out.alloc (.cells #[.int .u64 (uk : Int)] 26)) tU_F)
        obtain ⟨b9, d9, rfl⟩ : ∃ a c, v9 = .slice a (k + 1) c := own_slice hown9
        have HO9 := Lib.hid hown9
        have Hb3 := Lib.hid hb3
        have HO2 := Lib.hid ho2'
        clear hown9 hgrow9 hv9 hb3 ho2'
        go_wp2_with (at_builtin; refine wpList_append_own _ rfl (.tmp 33) (.tmp 36) 23 rfl w.heap.size 29 j0 (.float .f64 0) 1 8 Tryz.underlying23 hj0 jz0 jz1 jz2 rfl (by decide) _ _ _ rfl (HO2.out.alloc _) ⟨w3.heap.size, 0, none⟩ 1 1 [.float .f64 (FI uk)] rfl rfl ?d1 ?d2 ?d3 ?d4 ?d5 ?_)
        case d1 =>
          intro i q hq
          match i, hq with
          | 0, hq => simp at hq; subst hq; simp [Addr.add]
        case d2 => intro q hq; simp at hq; subst hq; rfl
        case d3 => have := Hk3.out; unfold maxLen; omega
        case d4 => have := Hk3.out; omega
        case d5 => have := Hb3.out.size; simp; omega
        intro v10 w4 hown10 hgrow10 hv10
        have hb4 : RowKit.Below w.heap.size w w4 := (Hb3.out.alloc Hb3.out.size (.cells #[.float .f64 (FI uk)] 29)).grown hgrow10 (by have := Hb3.out.size; simp; omega) fun q hq => (HO2.out.lt q hq).1
        have ho9' := (HO9.out.alloc (.cells #[.float .f64 (FI uk)] 29)).kept hgrow10 (far_own (HO2.out.alloc (.cells #[.float .f64 (FI uk)] 29)) (HO9.out.alloc (.cells #[.float .f64 (FI uk)] 29)) (Ne.symm tU_F))
        obtain ⟨b10, d10, rfl⟩ : ∃ a c, v10 = .slice a (k + 1) c := own_slice hown10
        have HO10 := Lib.hid hown10
        have Hb4 := Lib.hid hb4
        have HO9' := Lib.hid ho9'
        clear hown10 hgrow10 hv10 hb4 ho9'
        go_wp2
        go_roundw
        case rel => exact ⟨k + 1, by go_num, ⟨_, _, rfl⟩, ⟨_, _, rfl⟩, by rw [← Hs'.out], ⟨by omega, Hb4.out⟩, ⟨_, HO9'.out⟩, Lib.hid (by have := HO10.out; rw [Huk.out] at this; rw [List.range_succ, List.map_append]; exact this)⟩
        case measure => simp [intOf]; omega
    · obtain rfl : k = N := by have := hk.out.1; omega
      go_wp2_with fail
      go_ret3
      exact ⟨_, _, rfl, Lib.hid ⟨ho2.out, hk.out.2⟩⟩
end Go.Proofs.YthcgojhfbcgaiaaGreatDoor

namespace Go.Proofs.YthcgojhfbcgaiaaGreatDoor
open Go.RowKit Go.Sort Go.Proofs

/-- What spec.Values tells at place j: the number before it is made a float. -/
def vInt (z : Nat → Nat) (j : Nat) : Nat := (z j * 7 + j * 31) % 1000

set_option maxRecDepth 100000 in
set_option maxHeartbeats 1000000 in
theorem values_calls (a : Option Addr) (len cap most : Nat) (z : Nat → Nat) (hmost : most ≤ 100000) (hz : ∀ j, z j < 256) (w : World) (hlen : len ≤ maxLen)
    (hc : 0 < len → ∃ b off, a = some ⟨b, off, none⟩ ∧ b < w.heap.size ∧ ∀ j, j < len → w.cell? ⟨b, off + j, none⟩ = some (.int .u8 (z j))) :
    Calls Tryz.prog 6 #[.slice a len cap, .int .i64 most] w fun r w' => ∃ v, r = .returned v ∧
      w'.ownsRow w.heap.size 29 1 v (min len most) ((List.range (min len most)).map fun i => .float .f64 (fN (vInt z i)).b) ∧ RowKit.Below w.heap.size w w' := by
  rcases Nat.eq_zero_or_pos len with h0 | hpos
  · subst h0
    clear hc hlen
    go_enter Tryz.func6, Tryz.ntmps6
    go_wp2_with fail
    refine wp_loop_rounds 1 ?_
    rw [rounds_succ]
    go_wp2_with fail
    go_ret
    refine ⟨_, rfl, ?_, RowKit.Below.refl _ _⟩
    simp
    exact World.ownsRow_nil _ _ _ _
  obtain ⟨b, off, rfl, hb, hcell⟩ := hc hpos
  obtain ⟨i0, hi, hz0, hz1, hz2⟩ := info_parts info_f64
  obtain ⟨g, hg⟩ : ∃ g : Nat → Nat, g = fun j => floatOfInt .f64 (((z j : Int) * 7 + j * 31) % 1000) := ⟨_, rfl⟩
  have hgv : ∀ j, j < 100000 → g j = (fN (vInt z j)).b := fun j hj => by
    rw [hg, fN_b _ (by unfold vInt; omega)]
    unfold vInt
    have := hz j
    congr 1
  have hgk := fun j => congrFun hg j
  have HG := Lib.hid hgv
  have HZ := Lib.hid hz
  have HC := Lib.hid hcell
  have HGK := Lib.hid hgk
  clear hc hgv hz hcell hg hgk
  go_enter Tryz.func6, Tryz.ntmps6
  go_wp2_with fail
  go_loopw [10, 5] (fun i v wr => ∃ k : Nat, k ≤ len ∧ k ≤ most ∧ i = .int .i64 k ∧ Hid (wr.ownsRow w.heap.size 29 1 v k ((List.range k).map fun i => .float .f64 (g i))) ∧ (∃ oa oc, v = .slice oa k oc) ∧ Hid (RowKit.Below w.heap.size w wr))
    (fun i _ _ => len - (intOf i).toNat)
  case atStart => exact ⟨0, Nat.zero_le _, Nat.zero_le _, rfl, Lib.hid (World.ownsRow_nil _ _ _ _), ⟨_, _, rfl⟩, Lib.hid (RowKit.Below.refl _ _)⟩
  case round =>
    obtain ⟨k, hk, hkm, rfl, hown, ⟨oa, oc, rfl⟩, hbl⟩ := hrel
    have hcx : k < len → wr.cell? ⟨b, off + k, none⟩ = some (.int .u8 (z k)) := fun h => (hbl.out.cell (by exact hb)).trans (HC.out k h)
    have hzk := HZ.out k
    have hzk' : (z k : Int) < 256 := by omega
    have hkk : (k : Int) ≤ 100000 := by omega
    have hww := hbl.out.size
    go_wp2_with (first
      | (at_builtin; refine wpList_append_own _ rfl (.tmp 19) (.tmp 28) 23 rfl w.heap.size 29 i0 (.float .f64 0) 1 8 Tryz.underlying23 hi hz0 hz1 hz2 rfl (by decide) _ _ _ rfl (hown.out.alloc _) ⟨wr.heap.size, 0, none⟩ 1 1 [.float .f64 (g k)] rfl rfl ?c1 ?c2 ?c3 ?c4 ?c5 ?_))
    case c1 =>
      intro j u hj
      match j, hj with
      | 0, hj => simp at hj; subst hj; simp [Addr.add, HGK.out k]
    case c2 => intro u hu; simp at hu; subst hu; rfl
    case c3 => unfold maxLen; omega
    case c4 => omega
    case c5 => simp; omega
    · have h1 : k = most := by
        have : ((k : Int) == (most : Int)) = true := by assumption
        have h2 : (k : Int) = most := by simpa using this
        omega
      subst h1
      go_ret
      refine ⟨_, rfl, ?_, hbl.out⟩
      rw [show min len k = k by omega]
      have := hown.out
      rw [List.map_congr_left (g := fun i => Value.float .f64 (fN (vInt z i)).b) (fun i hi => by rw [HG.out i (by simp at hi; omega)])] at this
      exact this
    · intro v' w1 hown' hgrow hv'
      have hne : ¬ k = most := by
        have : ((k : Int) == (most : Int)) = false := by assumption
        intro h; subst h; simp at this
      have hlt : k < len := by assumption
      have hb1 : RowKit.Below w.heap.size w w1 := by
        have hA := hbl.out.alloc hbl.out.size (.cells #[.float .f64 (floatOfInt .f64 (((z k : Int) * 7 + k * 31) % 1000))] 29)
        refine hA.grown hgrow (by simp; omega) fun q hq => ?_
        exact (hown.out.lt q hq).1
      have HO := Lib.hid hown'
      have HB := Lib.hid hb1
      have HV := Lib.hid hv'
      clear hown' hgrow hb1 hv' hcx
      go_wp2
      go_roundw
      case rel => exact ⟨k + 1, by omega, by omega, by go_num, Lib.hid (by have := HO.out; rw [List.range_succ, List.map_append]; exact this), own_slice HO.out, HB⟩
      case measure => simp [intOf]; omega
    · have h1 : ¬ k < len := by assumption
      obtain rfl : k = len := by omega
      go_ret
      refine ⟨_, rfl, ?_, hbl.out⟩
      rw [show min k most = k by omega]
      have := hown.out
      rw [List.map_congr_left (g := fun i => Value.float .f64 (fN (vInt z i)).b) (fun i hi => by rw [HG.out i (by simp at hi; omega)])] at this
      exact this
end Go.Proofs.YthcgojhfbcgaiaaGreatDoor

namespace Go.Proofs.YthcgojhfbcgaiaaGreatDoor
open Go.RowKit Go.Proofs

theorem byte_wf' {x : Int} (h : (Lit.int .u8 x).wf = true) : 0 ≤ x ∧ x < 256 := by
  have h1 : IntKind.u8.min = 0 := rfl
  have h2 : IntKind.u8.max = 255 := rfl
  simp only [Lit.wf, Bool.and_eq_true, decide_eq_true_eq] at h
  omega
/-- The bytes that came in. -/
theorem row_bytes {w : World} {a : Option Addr} {len cap : Nat} {zs : List Int} (h : (a = none ∧ len = 0 ∧ cap = 0 ∧ zs = []) ∨
    ∃ x, a = some x ∧ len ≤ cap ∧ cap ≤ maxLen ∧ zs.length = cap ∧ (∀ i, i < zs.length → w.cell? (x.add i) = some (.int .u8 (zs.getD i 0))) ∧ ∀ n ∈ zs, (Lit.int .u8 n).wf = true) :
    ∃ z : Nat → Nat, len ≤ maxLen ∧ (∀ j, z j < 256) ∧ (0 < len → ∃ b off, a = some ⟨b, off, none⟩ ∧ b < w.heap.size ∧ ∀ j, j < len → w.cell? ⟨b, off + j, none⟩ = some (.int .u8 (z j))) := by
  rcases h with ⟨rfl, rfl, rfl, rfl⟩ | ⟨x, rfl, h1, h2, h3, h4, h5⟩
  · exact ⟨fun _ => 0, by unfold maxLen; omega, fun _ => by show 0 < 256; decide, fun h => absurd h (by omega)⟩
  · have hw : ∀ j, 0 ≤ zs.getD j 0 ∧ zs.getD j 0 < 256 := fun j => by
      rcases Nat.lt_or_ge j zs.length with h | h
      · have e : zs.getD j 0 = zs[j] := by simp [h]
        rw [e]; exact byte_wf' (h5 _ (List.getElem_mem h))
      · rw [show zs.getD j 0 = 0 by simp [h]]; omega
    refine ⟨fun j => (zs.getD j 0).toNat, by omega, fun j => by have := hw j; show (zs.getD j 0).toNat < 256; omega, fun hp => ?_⟩
    have hc : ∀ j, j < len → w.cell? (x.add j) = some (.int .u8 ((zs.getD j 0).toNat : Nat)) := fun j hj => by
      have := hw j
      rw [h4 j (by omega)]; congr 2; omega
    obtain ⟨b, off, sp⟩ := x
    have hsp : sp = none := by
      have h0 := hc 0 hp
      cases sp with
      | none => rfl
      | some q =>
        unfold World.cell? at h0
        split at h0
        · simp [Addr.add] at h0
        · cases h0
    subst hsp
    refine ⟨b, off, rfl, ?_, fun j hj => by have := hc j hj; rwa [Addr.add_lit] at this⟩
    have h0 := hc 0 hp
    unfold World.cell? at h0
    split at h0
    · rename_i hq; exact lt_of_at hq
    · cases h0

end Go.Proofs.YthcgojhfbcgaiaaGreatDoor

namespace Go.Proofs.YthcgojhfbcgaiaaGreatDoor
open Go.RowKit Go.Sort Go.Proofs

/-- spec.Values, the row told apart. -/
theorem values_row (a : Option Addr) (len cap most : Nat) (z : Nat → Nat) (hmost : most ≤ 100000) (hz : ∀ j, z j < 256) (w : World) (hlen : len ≤ maxLen)
    (hc : 0 < len → ∃ b off, a = some ⟨b, off, none⟩ ∧ b < w.heap.size ∧ ∀ j, j < len → w.cell? ⟨b, off + j, none⟩ = some (.int .u8 (z j))) :
    Calls Tryz.prog 6 #[.slice a len cap, .int .i64 most] w fun r w' => ∃ oa oc, r = .returned (.slice oa (min len most) oc) ∧
      Hid (RowKit.Below w.heap.size w w' ∧ (1 ≤ min len most → ∃ V, oa = some ⟨V, 0, none⟩ ∧ w.heap.size ≤ V ∧ V < w'.heap.size ∧ FloatsAt w' V (min len most) (fun i => fN (vInt z i)))) := by
  refine (values_calls a len cap most z hmost hz w hlen hc).mono ?_
  rintro r w' ⟨v, rfl, ho, hb⟩
  rcases floats_of_own (val := fun i => fN (vInt z i)) ho with ⟨rfl, h0⟩ | ⟨V, cap', rfl, _, _, h3, h4, h5, _⟩
  · exact ⟨none, 0, by rw [h0], ⟨hb, fun h => absurd h (by omega)⟩⟩
  · exact ⟨_, _, rfl, ⟨hb, fun _ => ⟨V, rfl, h3, h4, h5⟩⟩⟩

end Go.Proofs.YthcgojhfbcgaiaaGreatDoor
