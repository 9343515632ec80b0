/- laws.FnInfluxExactFew, walked. Conditions: the bytes, and the tables of math's sine and cosine, lie in memory. -/
import Derived.Test.YthcgojhfbcgaiaaGreatDoorMBU
import Derived.Test.YthcgojhfbcgaiaaGreatDoorMBV

namespace Go.Proofs.YthcgojhfbcgaiaaGreatDoor
open Go.RowKit Go.Sort Go.Proofs

/-- impl.Influx on few values, and what the statement asks of what it gives. -/
theorem few_law {N : Nat} {f : Nat → Nat} {oa ob : Option Addr} {oc obc : Nat} {w : World} (t1 : Tab6 w 1 cosK) (t2 : Tab6 w 2 sinK) (b3 : 3 ≤ w.heap.size)
    (hxs : 0 < N → ∃ V, oa = some ⟨V, 0, none⟩ ∧ V < w.heap.size ∧ ∀ i, i < N → w.cell? ⟨V, i, none⟩ = some (.float .f64 (FI (f i)))) (h0 : N = 0 → oa = none ∧ oc = 0)
    (hys : 0 < N → ∃ V, ob = some ⟨V, 0, none⟩ ∧ V < w.heap.size ∧ ∀ i, i < N → w.cell? ⟨V, i, none⟩ = some (.float .f64 (FI 1)))
    (hN : N ≤ 30) (hf : ∀ i, f i < 1000) :
    Calls Tryz.prog 8 #[.slice oa N oc, .slice ob N obc, .int .i64 1000] w fun e w' => ∃ (n : Nat) (a1 : Option Addr) (c1 : Nat) (v2 : Value) (r : Nat), e = .returned (.tuple #[.slice a1 n c1, v2, .float .f64 r]) ∧
      Hid (RowKit.Below w.heap.size w w' ∧ (Calls Tryz.prog 16 #[.slice oa N oc] w' fun e w2 => ∃ (a2 : Option Addr) (c2 : Nat), e = .returned (.slice a2 n c2) ∧
        Hid (RowKit.Below w'.heap.size w' w2 ∧ Calls Tryz.prog 15 #[.slice a1 n c1, .slice a2 n c2] w2 fun e w3 => e = .returned (.bool true) ∧ w2 = w3))) := by
  obtain ⟨lo, hi, hlo, hhi, hb⟩ : ∃ lo hi, (1 ≤ N → lo = minTo (fun i => FI (f i)) (N - 1)) ∧ (1 ≤ N → hi = maxTo (fun i => FI (f i)) (N - 1)) ∧ hi ≤ FI 1000 := by
    rcases Nat.eq_zero_or_pos N with h | h
    · exact ⟨0, 0, fun h' => by omega, fun h' => by omega, Nat.zero_le _⟩
    · refine ⟨_, _, fun _ => rfl, fun _ => rfl, ?_⟩
      obtain ⟨i, _, e⟩ := maxTo_at (fun i => FI (f i)) (N - 1)
      rw [e]
      exact rungVal_le.1 (by rw [rungVal_FI _ (by have := hf i; omega), rungVal_FI 1000 (by omega)]; exact Nat.mul_le_mul_right _ (by have := hf i; omega))
  obtain ⟨V, hV⟩ : ∃ V, 0 < N → oa = some ⟨V, 0, none⟩ ∧ V < w.heap.size ∧ ∀ i, i < N → w.cell? ⟨V, i, none⟩ = some (.float .f64 (FI (f i))) := by
    rcases Nat.eq_zero_or_pos N with h | h
    · exact ⟨0, fun h' => by omega⟩
    · obtain ⟨V, hV⟩ := hxs h; exact ⟨V, fun _ => hV⟩
  obtain ⟨Wb, hWb⟩ : ∃ V, 0 < N → ob = some ⟨V, 0, none⟩ ∧ V < w.heap.size ∧ ∀ i, i < N → w.cell? ⟨V, i, none⟩ = some (.float .f64 (FI ((fun _ : Nat => 1) i))) := by
    rcases Nat.eq_zero_or_pos N with h | h
    · exact ⟨0, fun h' => by omega⟩
    · obtain ⟨V, hV⟩ := hys h; exact ⟨V, fun _ => hV⟩
  have hfb : ∀ i, i < N → lo ≤ FI (f i) ∧ FI (f i) ≤ hi := fun i hi' => by
    rw [hlo (by omega), hhi (by omega)]
    exact ⟨minTo_le (fun i => FI (f i)) (N - 1) i (by omega), maxTo_ge (fun i => FI (f i)) (N - 1) i (by omega)⟩
  refine (influx_calls (cap := oc) (capW := obc) (c := 1000) (lo := lo) (hi := hi) (u := fun _ => 1) ⟨by omega, by omega, hb, t1, t2, b3⟩ hV hWb (by omega) hfb (fun _ => ⟨by omega, by omega⟩)).mono ?_
  rintro e w' ⟨P', v1, v2, rfl, hh⟩
  obtain ⟨hL, o1, _, hbl⟩ := hh.out
  obtain ⟨a1, c1, rfl⟩ := own_slice o1
  refine ⟨P'.length, a1, c1, v2, _, rfl, Lib.hid ⟨hbl, ?_⟩⟩
  rcases Nat.eq_zero_or_pos N with hz | hpos
  · obtain ⟨rfl, rfl⟩ := h0 hz
    obtain ⟨⟨X', mn', mx', hI⟩, _⟩ := hL
    have hnl : P'.length ≤ N := by have := hI.len; rw [lsOf_len] at this; simpa using this
    have h00 : P'.length = 0 := by omega
    rw [h00, hz]
    refine (sorted_nil w').mono ?_
    rintro e w2 ⟨rfl, hb2⟩
    exact ⟨none, 0, rfl, Lib.hid ⟨hb2, same_calls 0 c1 0 a1 none (fun _ => 0) w2 (by omega) (fun _ => by show 0 < 2 ^ 40; omega) (fun h => by omega) (fun h => by omega)⟩⟩
  · obtain ⟨bs, p1, p2, p3⟩ := left_few hN hpos hf hL
    have hbl2 : bs.length = N := by rw [p1.length_eq]; simp
    have hPl : P'.length = N := by have := congrArg List.length p3; simpa [hbl2] using this
    obtain ⟨rfl, hVl, hVc⟩ := hV hpos
    have hF : FloatsAt w' V N (fun i => fN (f i)) := fun i hi' => by
      show w'.cell? ⟨V, i, none⟩ = some (.float .f64 (fN (f i)).b)
      rw [fN_b (f i) (by have := hf i; omega)]
      exact (hbl.cell (p := ⟨V, i, none⟩) hVl).trans (hVc i hi')
    refine (sortedN_calls V oc N f w' hF (by have := hbl.size; omega) hpos (by omega) (fun i => by have := hf i; omega)).mono ?_
    rintro e w2 ⟨V', cap', bs', rfl, q1, q2, q3, q4, q5, q6⟩
    have hbb : bs' = bs := List.Perm.eq_of_pairwise (le := fun x y : Nat => x ≤ y) (fun a b _ _ => Nat.le_antisymm) q2 p2 (q1.trans p1.symm)
    subst hbb
    have hgl : ∀ i, i < N → bs'[i]! < 1000 := fun i hi' => by
      rw [getElem!_pos bs' i (by omega)]
      have := p1.subset (List.getElem_mem (show i < bs'.length by omega))
      simp at this
      obtain ⟨q, _, hq⟩ := this
      have := hf q
      omega
    have hgl2 : ∀ i, bs'[i]! < 2 ^ 40 := fun i => by
      rcases Nat.lt_or_ge i N with h | h
      · have := hgl i h; omega
      · rw [getElem!_neg bs' i (by omega)]; decide
    rw [hPl]
    rw [hPl] at o1
    refine ⟨some ⟨V', 0, none⟩, cap', rfl, Lib.hid ⟨q6, same_calls N c1 cap' a1 _ (fun i => bs'[i]!) w2 (by omega) hgl2 (fun _ => ?_) (fun _ => ⟨V', rfl, fun i hi' => ?_⟩)⟩⟩
    · obtain ⟨M, rfl, hMl, hMc⟩ := own_cells (g := fun i => FI bs'[i]!) o1 (fun i hi' => by
        rw [mV, List.getElem?_map, List.getElem?_eq_getElem (by omega)]
        have e := congrArg (fun l => l[i]?) p3
        simp only [List.getElem?_map, List.getElem?_eq_getElem (show i < P'.length by omega), List.getElem?_eq_getElem (show i < bs'.length by omega), Option.map_some, Option.some.injEq] at e
        rw [getElem!_pos bs' i (by omega)]
        show some (Value.float .f64 (P'[i]).m) = _
        rw [e]) hpos
      exact ⟨M, rfl, fun i hi' => (q6.cell (p := ⟨M, i, none⟩) hMl).trans (hMc i hi')⟩
    · have := q3 i hi'
      rw [fN_b (bs'[i]!) (by have := hgl i hi'; omega)] at this
      exact this

set_option maxRecDepth 100000 in
set_option maxHeartbeats 4000000 in
theorem lawIF (a : Option Addr) (len cap : Nat) (z : Nat → Nat) (w : World) (hlen : len ≤ maxLen) (hz : ∀ j, z j < 256)
    (hc : 0 < len → ∃ b off, a = some ⟨b, off, none⟩ ∧ b < w.heap.size ∧ ∀ j, j < len → w.cell? ⟨b, off + j, none⟩ = some (.int .u8 (z j))) (t1 : Tab6 w 1 cosK) (t2 : Tab6 w 2 sinK) (b3 : 3 ≤ w.heap.size) :
    Calls Tryz.prog 5 #[.slice a len cap] w fun e w' => e = .returned (.bool true) ∧ RowKit.Below w.heap.size w w' := by
  have hv := Lib.hid (values_few a len cap 30 z (by omega) (by omega) hz w hlen hc)
  have hsane := fun w => Lib.hid (sane_calls w)
  by_cases hbig : (2147483647 : Int) < (len : Int)
  · clear hv hc hz hlen t1 t2 b3 hsane
    go_enter Tryz.func5, Tryz.ntmps5
    go_wp2_with fail
    go_ret
    exact ⟨rfl, RowKit.Below.refl _ _⟩
  obtain ⟨N, hN⟩ : ∃ N, N = min len 30 := ⟨_, rfl⟩
  rw [← hN] at hv
  have hN3 : N ≤ 30 := by omega
  have hf : ∀ i, vInt z i < 1000 := fun i => by unfold vInt; omega
  have hVals : Hid (∀ (oa : Option Addr) (w1 : World), (1 ≤ N → ∃ V, oa = some ⟨V, 0, none⟩ ∧ w.heap.size ≤ V ∧ V < w1.heap.size ∧ FloatsAt w1 V N (fun i => fN (vInt z i))) → ∀ w2 : World, RowKit.Below w1.heap.size w1 w2 →
      (0 < N → ∃ V, oa = some ⟨V, 0, none⟩ ∧ V < w2.heap.size ∧ ∀ i, i < N → w2.cell? ⟨V, i, none⟩ = some (.float .f64 (FI (vInt z i))))) := Lib.hid fun oa w1 h1 w2 hb hpos => by
    obtain ⟨V, e1, _, e3, e4⟩ := h1 hpos
    refine ⟨V, e1, by have := hb.size; omega, fun i hi => ?_⟩
    have := (e4.below hb e3) i hi
    rw [fN_b (vInt z i) (by have := hf i; omega)] at this; exact this
  have hmany : Hid (∀ (oa : Option Addr) (oc : Nat) (w1 : World), Calls Tryz.prog 7 #[.slice none 0 0, .slice oa N oc] w1 fun e w' => ∃ b2 d2, ∃ v1 v3, e = .returned (.tuple #[v1, .slice b2 N d2, v3]) ∧
      Hid ((0 < N → ∃ V, b2 = some ⟨V, 0, none⟩ ∧ V < w'.heap.size ∧ ∀ i, i < N → w'.cell? ⟨V, i, none⟩ = some (.float .f64 (FI 1))) ∧ RowKit.Below w1.heap.size w1 w')) := Lib.hid fun oa oc w1 => by
    refine (many_calls (oa := oa) (oc := oc) (len := 0) (z := fun _ => 0) (by omega) (fun _ => by show 0 < 256; omega) (by omega) (fun h => by omega)).mono ?_
    rintro e w' ⟨v1, v2, rfl, hh⟩
    obtain ⟨o, hb'⟩ := hh.out
    obtain ⟨b2, d2, rfl⟩ := own_slice o
    exact ⟨b2, d2, v1, _, rfl, Lib.hid ⟨own_cells (g := fun _ => FI 1) o (fun i hi => by rw [List.getElem?_map, List.getElem?_range hi]; rfl), hb'⟩⟩
  have hinf : Hid (∀ (oa : Option Addr) (oc : Nat) (ob : Option Addr) (obc : Nat) (w1 : World), RowKit.Below w.heap.size w w1 → (0 < N → ∃ V, oa = some ⟨V, 0, none⟩ ∧ V < w1.heap.size ∧ ∀ i, i < N → w1.cell? ⟨V, i, none⟩ = some (.float .f64 (FI (vInt z i)))) → (N = 0 → oa = none ∧ oc = 0) →
      (0 < N → ∃ V, ob = some ⟨V, 0, none⟩ ∧ V < w1.heap.size ∧ ∀ i, i < N → w1.cell? ⟨V, i, none⟩ = some (.float .f64 (FI 1))) →
      Calls Tryz.prog 8 #[.slice oa N oc, .slice ob N obc, .int .i64 1000] w1 fun e w' => ∃ (n : Nat) (a1 : Option Addr) (c1 : Nat) (v2 : Value) (r : Nat), e = .returned (.tuple #[.slice a1 n c1, v2, .float .f64 r]) ∧
      Hid (RowKit.Below w1.heap.size w1 w' ∧ (Calls Tryz.prog 16 #[.slice oa N oc] w' fun e w2 => ∃ (a2 : Option Addr) (c2 : Nat), e = .returned (.slice a2 n c2) ∧
        Hid (RowKit.Below w'.heap.size w' w2 ∧ Calls Tryz.prog 15 #[.slice a1 n c1, .slice a2 n c2] w2 fun e w3 => e = .returned (.bool true) ∧ w2 = w3)))) := Lib.hid fun oa oc ob obc w1 hb hx h0 hy =>
    few_law (t1.below hb (by omega)) (t2.below hb (by omega)) (by have := hb.size; omega) hx h0 hy hN3 hf
  have hNi : (N : Int) ≤ 30 := by omega
  clear hc hz hlen hN hf t1 t2 b3 hN3
  go_enter Tryz.func5, Tryz.ntmps5
  go_wp2_with (first
    | (go_at_call 6; refine hv.out.mono ?_; rintro e w1 ⟨oa, oc, rfl, hE⟩)
    | (go_at_call 7; refine (hmany.out oa oc w1).mono ?_; rintro e w2 ⟨b2, d2, v1, v3, rfl, hF⟩; have HB := Lib.hid (hE.out.1.trans (hF.out.2.mono hE.out.1.size)); have HX := Lib.hid (hVals.out oa w1 hE.out.2.1 w2 hF.out.2))
    | (go_at_call 8; refine (hinf.out oa oc b2 d2 w2 HB.out HX.out hE.out.2.2 hF.out.1).mono ?_; rintro e w4 ⟨n4, a4, c4, v5, r5, rfl, hG⟩)
    | (go_at_call 16; refine hG.out.2.mono ?_; rintro e w5 ⟨a6, c6, rfl, hS⟩)
    | (go_at_call 15; refine hS.out.2.mono ?_; rintro e w6 ⟨rfl, rfl⟩)
    | (go_at_call 12; refine (hsane _).out.mono ?_; rintro e w7 ⟨rfl, hb7⟩; have HB7 := Lib.hid hb7; clear hb7))
  go_ret
  have s0 := HB.out.size
  have b1 := hG.out.1
  have s1 := b1.size
  have b2 := hS.out.1
  have s2 := b2.size
  exact ⟨rfl, ((HB.out.trans (b1.mono s0)).trans (b2.mono (by omega))).trans (HB7.out.mono (by omega))⟩
end Go.Proofs.YthcgojhfbcgaiaaGreatDoor
