/- laws.FnExactTargeted, walked. -/
import Derived.Test.YthcgojhfbcgaiaaNear
namespace Go.Proofs.Ythcgojhfbcgaiaa
open Go.RowKit Go.Sort Go.Proofs

theorem byte_wf' {x : Int} (h : (Lit.int .u8 x).wf = true) : 0 ≤ x ∧ x < 256 := by
  have h1 : IntKind.u8.min = 0 := rfl
  have h2 : IntKind.u8.max = 255 := rfl
  simp only [Lit.wf, Bool.and_eq_true, decide_eq_true_eq] at h
  omega
/-- The bytes that came in. -/
theorem row_bytes {w : World} {a : Option Addr} {len cap : Nat} {zs : List Int} (h : (a = none ∧ len = 0 ∧ cap = 0 ∧ zs = []) ∨
    ∃ x, a = some x ∧ len ≤ cap ∧ cap ≤ maxLen ∧ zs.length = cap ∧ (∀ i, i < zs.length → w.cell? (x.add i) = some (.int .u8 (zs.getD i 0))) ∧ ∀ n ∈ zs, (Lit.int .u8 n).wf = true) :
    ∃ z : Nat → Nat, len ≤ maxLen ∧ (∀ j, z j < 256) ∧ (0 < len → ∃ b off, a = some ⟨b, off, none⟩ ∧ b < w.heap.size ∧ ∀ j, j < len → w.cell? ⟨b, off + j, none⟩ = some (.int .u8 (z j))) := by
  rcases h with ⟨rfl, rfl, rfl, rfl⟩ | ⟨x, rfl, h1, h2, h3, h4, h5⟩
  · exact ⟨fun _ => 0, by unfold maxLen; omega, fun _ => by show 0 < 256; decide, fun h => absurd h (by omega)⟩
  · have hw : ∀ j, 0 ≤ zs.getD j 0 ∧ zs.getD j 0 < 256 := fun j => by
      rcases Nat.lt_or_ge j zs.length with h | h
      · have e : zs.getD j 0 = zs[j] := by simp [h]
        rw [e]; exact byte_wf' (h5 _ (List.getElem_mem h))
      · rw [show zs.getD j 0 = 0 by simp [h]]; omega
    refine ⟨fun j => (zs.getD j 0).toNat, by omega, fun j => by have := hw j; show (zs.getD j 0).toNat < 256; omega, fun hp => ?_⟩
    have hc : ∀ j, j < len → w.cell? (x.add j) = some (.int .u8 ((zs.getD j 0).toNat : Nat)) := fun j hj => by
      have := hw j
      rw [h4 j (by omega)]; congr 2; omega
    obtain ⟨b, off, sp⟩ := x
    have hsp : sp = none := by
      have h0 := hc 0 hp
      cases sp with
      | none => rfl
      | some q =>
        unfold World.cell? at h0
        split at h0
        · simp [Addr.add] at h0
        · cases h0
    subst hsp
    refine ⟨b, off, rfl, ?_, fun j hj => by have := hc j hj; rwa [Addr.add_lit] at this⟩
    have h0 := hc 0 hp
    unfold World.cell? at h0
    split at h0
    · rename_i hq; exact lt_of_at hq
    · cases h0

/-- The value at place p, of the values in order. -/
def keyAt (val : Nat → FNN) (N p : Nat) : Nat := (((List.range N).map fun i => (val i).b).mergeSort (· ≤ ·))[p]!
theorem keys_are {val : Nat → FNN} {N : Nat} {l : List Nat} (hp : l.Perm ((List.range N).map fun i => (val i).b)) (hs : l.Pairwise (· ≤ ·)) (p : Nat) : l[p]! = keyAt val N p := by
  unfold keyAt
  have h2 : (((List.range N).map fun i => (val i).b).mergeSort (· ≤ ·)).Pairwise (· ≤ ·) := by
    refine (List.pairwise_mergeSort (le := fun a b => decide (a ≤ b)) (fun a b c h1 h2 => by simp at *; omega) (fun a b => by simp; omega) _).imp fun {a b} h => by simpa using h
  rw [keys_one (hp.trans (List.mergeSort_perm _ _).symm) hs h2]
theorem keyAt_smp {val : Nat → FNN} {N p : Nat} (hp : p < N) {ys : List SmpF} (h1 : ys.Perm (onesOf val N)) (h2 : ys.Pairwise (fun a b => ltSmp b a = false)) : ys[p]!.v.b = keyAt val N p := by
  rw [get_keys _ _ (by rw [h1.length_eq, onesOf_len]; exact hp)]
  refine keys_are ?_ (keys_of_smp h2) p
  have := h1.map (·.v.b)
  rw [onesOf, List.map_map] at this
  exact this
theorem keyAt_fnn {val : Nat → FNN} {N p : Nat} (hp : p < N) {es : List FNN} (h1 : es.Perm ((List.range N).map val)) (h2 : (es.map (·.b)).Pairwise (· ≤ ·)) : es[p]!.b = keyAt val N p := by
  have hl : es.length = N := by rw [h1.length_eq]; simp
  have := keys_are (val := val) (N := N) (by have := h1.map (·.b); rw [List.map_map] at this; exact this) h2 p
  rw [← this, getElem!_pos es p (by omega), getElem!_pos (es.map (·.b)) p (by simp; omega)]; simp
theorem keyAt_lt {val : Nat → FNN} {N p : Nat} (hp : p < N) : keyAt val N p < 2047 * 2 ^ 52 := by
  unfold keyAt
  have hl : p < (((List.range N).map fun i => (val i).b).mergeSort (· ≤ ·)).length := by rw [List.length_mergeSort]; simpa using hp
  rw [getElem!_pos _ p hl]
  have := (List.mergeSort_perm ((List.range N).map fun i => (val i).b) (fun a b => decide (a ≤ b))).subset (List.getElem_mem hl)
  simp at this
  obtain ⟨i, _, hi⟩ := this
  rw [← hi]; exact (val i).h

/-- spec.Values, the row told apart. -/
theorem values_row (a : Option Addr) (len cap most : Nat) (z : Nat → Nat) (hmost : most ≤ 100000) (hz : ∀ j, z j < 256) (w : World) (hlen : len ≤ maxLen)
    (hc : 0 < len → ∃ b off, a = some ⟨b, off, none⟩ ∧ b < w.heap.size ∧ ∀ j, j < len → w.cell? ⟨b, off + j, none⟩ = some (.int .u8 (z j))) :
    Calls Try.prog 12 #[.slice a len cap, .int .i64 most] w fun r w' => ∃ oa oc, r = .returned (.slice oa (min len most) oc) ∧
      Hid (RowKit.Below w.heap.size w w' ∧ (1 ≤ min len most → ∃ V, oa = some ⟨V, 0, none⟩ ∧ w.heap.size ≤ V ∧ V < w'.heap.size ∧ FloatsAt w' V (min len most) (fun i => fN (vInt z i)))) := by
  refine (values_calls a len cap most z hmost hz w hlen hc).mono ?_
  rintro r w' ⟨v, rfl, ho, hb⟩
  rcases floats_of_own (val := fun i => fN (vInt z i)) ho with ⟨rfl, h0⟩ | ⟨V, cap', rfl, _, _, h3, h4, h5, _⟩
  · exact ⟨none, 0, by rw [h0], ⟨hb, fun h => absurd h (by omega)⟩⟩
  · exact ⟨_, _, rfl, ⟨hb, fun _ => ⟨V, rfl, h3, h4, h5⟩⟩⟩

set_option maxRecDepth 100000 in
theorem lawET (a : Option Addr) (len cap n : Nat) (z : Nat → Nat) (hn : n < 256) (w : World) (hlen : len ≤ maxLen) (hz : ∀ j, z j < 256)
    (hc : 0 < len → ∃ b off, a = some ⟨b, off, none⟩ ∧ b < w.heap.size ∧ ∀ j, j < len → w.cell? ⟨b, off + j, none⟩ = some (.int .u8 (z j))) :
    Calls Try.prog 5 #[.slice a len cap, .int .u8 n] w fun e w' => e = .returned (.bool true) ∧ RowKit.Below w.heap.size w w' := by
  have hv := Lib.hid (values_row a len cap 300 z (by omega) hz w hlen hc)
  have hn' : (n : Int) < 256 := by omega
  clear hc hz hlen
  by_cases hbig : (2147483647 : Int) < (len : Int)
  · clear hv
    go_enter Try.func5, Try.ntmps5
    go_wp2_with fail
    go_ret
    exact ⟨rfl, RowKit.Below.refl _ _⟩
  obtain ⟨N, hN⟩ : ∃ N, N = min len 300 := ⟨_, rfl⟩
  rw [← hN] at hv
  have hN3 : N ≤ 300 := by omega
  have hsane := fun w => Lib.hid (sane_calls w)
  clear hN
  rcases Nat.eq_zero_or_pos N with h0 | hpos
  · subst h0
    clear hN3
    go_enter Try.func5, Try.ntmps5
    go_wp2_with (first
      | (go_at_call 12; refine hv.out.mono ?_; rintro e w1 ⟨oa, oc, rfl, hE⟩)
      | (go_at_call 8; refine (hsane _).out.mono ?_; rintro e w2 ⟨rfl, hb2⟩; have HB2 := Lib.hid hb2; clear hb2))
    go_ret
    exact ⟨rfl, hE.out.1.trans (HB2.out.mono hE.out.1.size)⟩
  obtain ⟨val, hval⟩ : ∃ val : Nat → FNN, val = fun i => fN (vInt z i) := ⟨_, rfl⟩
  rw [← hval] at hv
  clear hval
  have hv' : Calls Try.prog 12 #[.slice a len cap, .int .i64 (300 : Nat)] w fun r w' => ∃ V oc, r = .returned (.slice (some ⟨V, 0, none⟩) N oc) ∧
      Hid (RowKit.Below w.heap.size w w' ∧ w.heap.size ≤ V ∧ V < w'.heap.size ∧ FloatsAt w' V N val) :=
    hv.out.mono fun e w' ⟨oa, oc, h1, h2⟩ => by
      obtain ⟨V, rfl, h4, h5, h6⟩ := h2.out.2 hpos
      exact ⟨V, oc, h1, ⟨h2.out.1, h4, h5, h6⟩⟩
  have Hv := Lib.hid hv'
  clear hv hv'
  obtain ⟨k, hk⟩ : ∃ k, k = n % 17 := ⟨_, rfl⟩
  have hk16 : k ≤ 16 := by omega
  have hpl : placeOf N k < N := by unfold placeOf; have := Nat.mul_le_mul_left N hk16; omega
  obtain ⟨K, hK⟩ : ∃ K, K = keyAt val N (placeOf N k) := ⟨_, rfl⟩
  have hKl : K < 2047 * 2 ^ 52 := by rw [hK]; exact keyAt_lt hpl
  have hpart : Hid (∀ w, Calls Try.prog 10 #[.int .u8 n] w fun e w' => e = .returned (.float .f64 (FX (k : Int))) ∧ w = w') := Lib.hid (by rw [hk]; exact fun w => part_calls n hn w)
  have htg : Hid (∀ V oc w1, FloatsAt w1 V N val → V < w1.heap.size → Calls Try.prog 9 #[.slice (some ⟨V, 0, none⟩) N oc, .float .f64 (FX (k : Int)), .float .f64 4576918229304087675] w1 fun e w' => e = .returned (.tuple #[.float .f64 K, .int .i64 N]) ∧ RowKit.Below w1.heap.size w1 w') :=
    Lib.hid fun V oc w1 h1 h2 => (Targeted_few V oc N k val w1 h1 h2 hpos (by omega) hk16 _).mono fun e w' ⟨⟨ys, h3, h4, h5⟩, h6⟩ => ⟨by rw [h5, keyAt_smp hpl h3 h4, hK], h6⟩
  have hne : Hid (∀ V oc w1, FloatsAt w1 V N val → V < w1.heap.size → Calls Try.prog 15 #[.slice (some ⟨V, 0, none⟩) N oc, .int .u8 n] w1 fun e w' => e = .returned (.float .f64 K) ∧ RowKit.Below w1.heap.size w1 w') :=
    Lib.hid fun V oc w1 h1 h2 => (nearest_calls V oc N n hn val w1 h1 h2 hpos (by omega)).mono fun e w' ⟨⟨es, h3, h4, h5⟩, h6⟩ => ⟨by rw [h5, ← hk, keyAt_fnn hpl h3 h4, hK], h6⟩
  have hord : (FloatKind.f64.format.order K K == some .eq) = true := by
    show (Ieee.double.order K K == some .eq) = true
    rw [order_pos hKl hKl, Nat.compare_eq_eq.2 rfl]; rfl
  have hNi : ¬ ((N : Int) = 0) := by omega
  have HK := Lib.hid hK
  have HKl := Lib.hid hKl
  have HP := Lib.hid hpl
  clear hK hKl hpl hk
  go_enter Try.func5, Try.ntmps5
  go_wp2_with (first
    | (go_at_call 12; refine Hv.out.mono ?_; rintro e w1 ⟨V, oc, rfl, hE⟩)
    | (go_at_call 10; refine (hpart.out _).mono ?_; rintro e w2 ⟨rfl, rfl⟩)
    | (go_at_call 9; refine (htg.out V oc w1 hE.out.2.2.2 hE.out.2.2.1).mono ?_; rintro e w3 ⟨rfl, hb3⟩; have HB3 := Lib.hid hb3; clear hb3)
    | (go_at_call 15; refine (hne.out V oc w3 (hE.out.2.2.2.below HB3.out hE.out.2.2.1) (Nat.lt_of_lt_of_le hE.out.2.2.1 HB3.out.size)).mono ?_; rintro e w4 ⟨rfl, hb4⟩; have HB4 := Lib.hid hb4; clear hb4)
    | (go_at_call 8; refine (hsane _).out.mono ?_; rintro e w5 ⟨rfl, hb5⟩; have HB5 := Lib.hid hb5; clear hb5))
  go_ret
  have b0 := hE.out.1
  have b1 := HB3.out
  have b2 := HB4.out
  have b3 := HB5.out
  have s0 := b0.size
  have s1 := b1.size
  have s2 := b2.size
  exact ⟨rfl, ((b0.trans (b1.mono s0)).trans (b2.mono (by omega))).trans (b3.mono (by omega))⟩
end Go.Proofs.Ythcgojhfbcgaiaa
