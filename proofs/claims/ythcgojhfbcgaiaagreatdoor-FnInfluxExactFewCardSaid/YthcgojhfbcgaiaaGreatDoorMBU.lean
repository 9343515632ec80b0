/- laws.FnInfluxCount, walked. Conditions: the bytes, and the tables of math's sine and cosine, lie in memory. What the laid variables give the walks: the tables of math's sine and cosine lie in memory. -/
import Derived.Test.YthcgojhfbcgaiaaGreatDoorMBT
import Derived.Test.YthcgojhfbcgaiaaGreatDoorMBP
import Derived.ProofKit
import Derived.LaidMore
import Derived.OpenShut
import Derived.Stop.Joined
import Derived.Test.YthcgojhfbcgaiaaGreatDoorRows
import Derived.Test.YthcgojhfbcgaiaaGreatDoorMAJ

namespace Go.Proofs.YthcgojhfbcgaiaaGreatDoor
open Go.RowKit Go.Sort Go.Proofs

theorem wt_lsOf (f u : Nat → Nat) : ∀ k, wt (lsOf f u k) = sumU u k
  | 0 => rfl
  | k + 1 => by rw [lsOf_succ, wt_append, wt_lsOf f u k, sumU_succ, wt_cons, wt_nil]; rfl
set_option maxRecDepth 100000 in
theorem within0_calls (a b : Option Addr) (c d : Nat) (w : World) : Calls Tryz.prog 11 #[.slice a 0 c, .slice b 0 d] w fun e w' => e = .returned (.bool true) ∧ w = w' := by
  go_enter Tryz.func11, Tryz.ntmps11
  go_wp2_with fail
  go_ret
  exact ⟨rfl, rfl⟩
theorem own_cells {w : World} {base n : Nat} {oa : Option Addr} {cap : Nat} {g : Nat → Nat} {xs : List Value} (h : w.ownsRow base 29 1 (.slice oa n cap) n xs) (hx : ∀ i, i < n → xs[i]? = some (.float .f64 (g i))) :
    0 < n → ∃ V, oa = some ⟨V, 0, none⟩ ∧ V < w.heap.size ∧ ∀ i, i < n → w.cell? ⟨V, i, none⟩ = some (.float .f64 (g i)) := fun hn => by
  rcases h.2 with ⟨_, h0⟩ | ⟨V, cap', cur, h1, _, h3, _, _, h6, h7⟩
  · omega
  · injection h1 with a b c
    refine ⟨V, a, lt_of_at h3, fun i hi => cell_of h3 ?_⟩
    have := hx i hi
    rw [← h7, List.getElem?_take_of_lt (by omega)] at this
    simpa using this
theorem lsOf_mem {f u : Nat → Nat} {N : Nat} {x : Cen} (h : x ∈ lsOf f u N) : ∃ i, i < N ∧ x = ⟨FI (f i), u i⟩ := by
  simp only [lsOf, List.mem_map, List.mem_range] at h
  obtain ⟨i, h1, h2⟩ := h
  exact ⟨i, h1, h2.symm⟩

/-- impl.Influx, and what the statement asks of what it gives. -/
theorem influx_law {N c : Nat} {f u : Nat → Nat} {oa ob : Option Addr} {oc obc : Nat} {w : World} (hc1 : 1 ≤ c) (hc2 : c ≤ 1000) (t1 : Tab6 w 1 cosK) (t2 : Tab6 w 2 sinK) (b3 : 3 ≤ w.heap.size)
    (hxs : 0 < N → ∃ V, oa = some ⟨V, 0, none⟩ ∧ V < w.heap.size ∧ ∀ i, i < N → w.cell? ⟨V, i, none⟩ = some (.float .f64 (FI (f i))))
    (hys : 0 < N → ∃ V, ob = some ⟨V, 0, none⟩ ∧ V < w.heap.size ∧ ∀ i, i < N → w.cell? ⟨V, i, none⟩ = some (.float .f64 (FI (u i))))
    (hN : N ≤ 300) (hf : ∀ i, f i < 1000) (hu : ∀ i, 1 ≤ u i ∧ u i ≤ 9) :
    Calls Tryz.prog 8 #[.slice oa N oc, .slice ob N obc, .int .i64 (c : Int)] w fun e w' => ∃ (n : Nat) (a1 : Option Addr) (c1 : Nat) (a2 : Option Addr) (c2 : Nat), e = .returned (.tuple #[.slice a1 n c1, .slice a2 n c2, .float .f64 (FI (sumU u N))]) ∧
      Hid (RowKit.Below w.heap.size w w' ∧ (Calls Tryz.prog 10 #[.slice a2 n c2] w' fun e w'' => e = .returned (.float .f64 (FI (sumU u N))) ∧ w' = w'') ∧
        (Calls Tryz.prog 11 #[.slice a1 n c1, .slice oa N oc] w' fun e w'' => e = .returned (.bool true) ∧ w' = w'')) := by
  obtain ⟨lo, hi, hlo, hhi, hb⟩ : ∃ lo hi, (1 ≤ N → lo = minTo (fun i => FI (f i)) (N - 1)) ∧ (1 ≤ N → hi = maxTo (fun i => FI (f i)) (N - 1)) ∧ hi ≤ FI 1000 := by
    rcases Nat.eq_zero_or_pos N with h | h
    · exact ⟨0, 0, fun h' => by omega, fun h' => by omega, Nat.zero_le _⟩
    · refine ⟨_, _, fun _ => rfl, fun _ => rfl, ?_⟩
      obtain ⟨i, _, e⟩ := maxTo_at (fun i => FI (f i)) (N - 1)
      rw [e]
      exact rungVal_le.1 (by rw [rungVal_FI _ (by have := hf i; omega), rungVal_FI 1000 (by omega)]; exact Nat.mul_le_mul_right _ (by have := hf i; omega))
  obtain ⟨V, hV⟩ : ∃ V, 0 < N → oa = some ⟨V, 0, none⟩ ∧ V < w.heap.size ∧ ∀ i, i < N → w.cell? ⟨V, i, none⟩ = some (.float .f64 (FI (f i))) := by
    rcases Nat.eq_zero_or_pos N with h | h
    · exact ⟨0, fun h' => by omega⟩
    · obtain ⟨V, hV⟩ := hxs h; exact ⟨V, fun _ => hV⟩
  obtain ⟨Wb, hWb⟩ : ∃ V, 0 < N → ob = some ⟨V, 0, none⟩ ∧ V < w.heap.size ∧ ∀ i, i < N → w.cell? ⟨V, i, none⟩ = some (.float .f64 (FI (u i))) := by
    rcases Nat.eq_zero_or_pos N with h | h
    · exact ⟨0, fun h' => by omega⟩
    · obtain ⟨V, hV⟩ := hys h; exact ⟨V, fun _ => hV⟩
  have hfb : ∀ i, i < N → lo ≤ FI (f i) ∧ FI (f i) ≤ hi := fun i hi' => by
    rw [hlo (by omega), hhi (by omega)]
    exact ⟨minTo_le (fun i => FI (f i)) (N - 1) i (by omega), maxTo_ge (fun i => FI (f i)) (N - 1) i (by omega)⟩
  refine (influx_calls (cap := oc) (capW := obc) (lo := lo) (hi := hi) ⟨hc1, hc2, hb, t1, t2, b3⟩ hV hWb hN hfb hu).mono ?_
  rintro e w' ⟨P', v1, v2, rfl, hh⟩
  obtain ⟨⟨⟨X', mn', mx', hI⟩, _⟩, o1, o2, hbl⟩ := hh.out
  obtain ⟨a1, c1, rfl⟩ := own_slice o1
  obtain ⟨a2, c2, rfl⟩ := own_slice o2
  have hwt : wt P' = sumU u N := by
    have := hI.tw
    rw [wt_nil, Nat.zero_add, wt_lsOf] at this
    exact this
  have hnl : P'.length ≤ N := by have := hI.len; rw [lsOf_len] at this; simpa using this
  have hs9 : sumU u N ≤ N * 9 := sumU_le (fun i => (hu i).2) N
  refine ⟨P'.length, a1, c1, a2, c2, by rw [wt_lsOf], Lib.hid ⟨hbl, ?_, ?_⟩⟩
  · have hx := own_cells (g := fun i => FI (P'[i]!.w)) o2 (fun i hi' => by
      rw [wV, List.getElem?_map, List.getElem?_eq_getElem hi', getElem!_pos P' i hi']; rfl)
    have hsw : ∀ k, k ≤ P'.length → sumU (fun i => P'[i]!.w) k ≤ sumU u N := fun k hk => by
      rw [sumU_wt P' k hk, ← hwt]
      have h2 := wt_append (P'.take k) (P'.drop k)
      rw [List.take_append_drop] at h2
      omega
    have h1 := sumF_calls (oa := a2) (N := P'.length) (cap := c2) (u := fun i => P'[i]!.w) (w := w') (fun h => by
      obtain ⟨V, e1, _, e3⟩ := hx h; exact ⟨V, e1, e3⟩) (by omega) (fun k hk => by have := hsw k hk; omega)
    rw [sumU_wt P' _ (Nat.le_refl _), List.take_length, hwt] at h1
    exact h1
  · rcases Nat.eq_zero_or_pos N with h | h
    · subst h
      have : P'.length = 0 := by omega
      rw [this]
      exact within0_calls _ _ _ _ _
    · obtain ⟨rfl, hVl, hVc⟩ := hV h
      have hne : P' ≠ [] := by
        have := hI.non (by intro e; have := congrArg List.length e; rw [lsOf_len] at this; simp at this; omega)
        simpa using this
      have hpos : 1 ≤ P'.length := List.length_pos_iff.2 hne
      obtain ⟨M, rfl, hMl, hMc⟩ := own_cells (g := fun i => P'[i]!.m) o1 (fun i hi' => by
        rw [mV, List.getElem?_map, List.getElem?_eq_getElem hi', getElem!_pos P' i hi']; rfl) (by omega)
      refine within_calls h (by omega) hf (fun i hi' => (hbl.cell (p := ⟨V, i, none⟩) hVl).trans (hVc i hi')) hpos (by omega) hMc (fun j hj => ?_) (fun j hj => ?_) (fun j hj => ?_)
      · rw [← hlo h, getElem!_pos P' j hj]; exact (hI.el _ (by simp)).1
      · rw [← hhi h, getElem!_pos P' j hj]; exact (hI.el _ (by simp)).2.1
      · rw [getElem!_pos P' j (by omega), getElem!_pos P' (j + 1) hj]
        exact List.pairwise_iff_getElem.1 hI.so j (j + 1) (by omega) hj (by omega)

set_option maxRecDepth 100000 in
set_option maxHeartbeats 4000000 in
theorem lawIC (a : Option Addr) (len cap : Nat) (a' : Option Addr) (len' cap' : Nat) (n : Nat) (z z' : Nat → Nat) (hn : n < 256) (w : World) (hlen : len ≤ maxLen) (hz : ∀ j, z j < 256)
    (hc : 0 < len → ∃ b off, a = some ⟨b, off, none⟩ ∧ b < w.heap.size ∧ ∀ j, j < len → w.cell? ⟨b, off + j, none⟩ = some (.int .u8 (z j))) (hz' : ∀ j, z' j < 256)
    (hc' : 0 < len' → ∃ b off, a' = some ⟨b, off, none⟩ ∧ b < w.heap.size ∧ ∀ j, j < len' → w.cell? ⟨b, off + j, none⟩ = some (.int .u8 (z' j))) (t1 : Tab6 w 1 cosK) (t2 : Tab6 w 2 sinK) (b3 : 3 ≤ w.heap.size) :
    Calls Tryz.prog 3 #[.slice a len cap, .slice a' len' cap', .int .u8 (n : Int)] w fun e w' => e = .returned (.bool true) ∧ RowKit.Below w.heap.size w w' := by
  have hv := Lib.hid (values_row a len cap 300 z (by omega) hz w hlen hc)
  have hsane := fun w => Lib.hid (sane_calls w)
  by_cases hbig : (2147483647 : Int) < (len : Int)
  · clear hv hc hz hlen hz' hc' t1 t2 b3 hsane
    go_enter Tryz.func3, Tryz.ntmps3
    go_wp2_with fail
    go_ret
    exact ⟨rfl, RowKit.Below.refl _ _⟩
  by_cases hbig' : (2147483647 : Int) < (len' : Int)
  · clear hv hc hz hlen hz' hc' t1 t2 b3 hsane
    go_enter Tryz.func3, Tryz.ntmps3
    go_wp2_with fail
    go_ret
    exact ⟨rfl, RowKit.Below.refl _ _⟩
  obtain ⟨N, hN⟩ : ∃ N, N = min len 300 := ⟨_, rfl⟩
  rw [← hN] at hv
  have hN3 : N ≤ 300 := by omega
  obtain ⟨c, hcc⟩ : ∃ c, c = 5 + n % 56 := ⟨_, rfl⟩
  have hf : ∀ i, vInt z i < 1000 := fun i => by unfold vInt; omega
  have hcom := fun w => Lib.hid (compr_calls n hn w)
  simp only [← hcc] at hcom
  have hmany : Hid (∀ (oa : Option Addr) (oc : Nat) (w1 : World), RowKit.Below w.heap.size w w1 → Calls Tryz.prog 7 #[.slice a' len' cap', .slice oa N oc] w1 fun e w' => ∃ b2 d2, ∃ v1, e = .returned (.tuple #[v1, .slice b2 N d2, .int .u64 ((sumU (uOf len' z') N : Nat) : Int)]) ∧
      Hid ((0 < N → ∃ V, b2 = some ⟨V, 0, none⟩ ∧ V < w'.heap.size ∧ ∀ i, i < N → w'.cell? ⟨V, i, none⟩ = some (.float .f64 (FI (uOf len' z' i)))) ∧ RowKit.Below w1.heap.size w1 w')) := Lib.hid fun oa oc w1 hb => by
    refine (many_calls (oa := oa) (oc := oc) (by omega) hz' hN3 (fun h => by
      obtain ⟨b, off, e1, e2, e3⟩ := hc' h
      exact ⟨b, off, e1, by have := hb.size; omega, fun j hj => (hb.cell (p := ⟨b, off + j, none⟩) e2).trans (e3 j hj)⟩)).mono ?_
    rintro e w' ⟨v1, v2, rfl, hh⟩
    obtain ⟨o, hb'⟩ := hh.out
    obtain ⟨b2, d2, rfl⟩ := own_slice o
    exact ⟨b2, d2, v1, rfl, Lib.hid ⟨own_cells o (fun i hi => by rw [List.getElem?_map, List.getElem?_range hi]; rfl), hb'⟩⟩
  have hinf : Hid (∀ (oa : Option Addr) (oc : Nat) (ob : Option Addr) (obc : Nat) (w1 : World), RowKit.Below w.heap.size w w1 → (0 < N → ∃ V, oa = some ⟨V, 0, none⟩ ∧ V < w1.heap.size ∧ ∀ i, i < N → w1.cell? ⟨V, i, none⟩ = some (.float .f64 (FI (vInt z i)))) →
      (0 < N → ∃ V, ob = some ⟨V, 0, none⟩ ∧ V < w1.heap.size ∧ ∀ i, i < N → w1.cell? ⟨V, i, none⟩ = some (.float .f64 (FI (uOf len' z' i)))) →
      Calls Tryz.prog 8 #[.slice oa N oc, .slice ob N obc, .int .i64 (c : Int)] w1 fun e w' => ∃ (n : Nat) (a1 : Option Addr) (c1 : Nat) (a2 : Option Addr) (c2 : Nat), e = .returned (.tuple #[.slice a1 n c1, .slice a2 n c2, .float .f64 (FI (sumU (uOf len' z') N))]) ∧
      Hid (RowKit.Below w1.heap.size w1 w' ∧ (Calls Tryz.prog 10 #[.slice a2 n c2] w' fun e w'' => e = .returned (.float .f64 (FI (sumU (uOf len' z') N))) ∧ w' = w'') ∧
        (Calls Tryz.prog 11 #[.slice a1 n c1, .slice oa N oc] w' fun e w'' => e = .returned (.bool true) ∧ w' = w''))) := Lib.hid fun oa oc ob obc w1 hb hx hy =>
    influx_law (by omega) (by omega) (t1.below hb (by omega)) (t2.below hb (by omega)) (by have := hb.size; omega) hx hy hN3 hf (fun i => uOf_b len' z' i)
  obtain ⟨T, hT⟩ : ∃ T, T = sumU (uOf len' z') N := ⟨_, rfl⟩
  have hTb : T ≤ 2700 := by
    have := sumU_le (u := uOf len' z') (m := 9) (fun i => (uOf_b len' z' i).2) N
    omega
  rw [← hT] at hmany hinf
  have hTi : (T : Int) ≤ 2700 := by omega
  have ho : FloatKind.f64.format.order (FI T) (FI T) = some .eq := by
    rw [ord_le (FI_in T (by omega)) (FI_in T (by omega)), Nat.compare_eq_eq.2 rfl]
  have hVals : Hid (∀ (oa : Option Addr) (w1 : World), (1 ≤ N → ∃ V, oa = some ⟨V, 0, none⟩ ∧ w.heap.size ≤ V ∧ V < w1.heap.size ∧ FloatsAt w1 V N (fun i => fN (vInt z i))) → ∀ w2 : World, RowKit.Below w1.heap.size w1 w2 →
      (0 < N → ∃ V, oa = some ⟨V, 0, none⟩ ∧ V < w2.heap.size ∧ ∀ i, i < N → w2.cell? ⟨V, i, none⟩ = some (.float .f64 (FI (vInt z i))))) := Lib.hid fun oa w1 h1 w2 hb hpos => by
    obtain ⟨V, e1, _, e3, e4⟩ := h1 hpos
    refine ⟨V, e1, by have := hb.size; omega, fun i hi => ?_⟩
    have := (e4.below hb e3) i hi
    rw [fN_b (vInt z i) (by have := hf i; omega)] at this; exact this
  have hni : (n : Int) ≤ 255 := by omega
  clear hc hz hlen hN hcc hf hn hz' hc' t1 t2 b3 hN3 hT hTb
  go_enter Tryz.func3, Tryz.ntmps3
  go_wp2_with (first
    | (go_at_call 6; refine hv.out.mono ?_; rintro e w1 ⟨oa, oc, rfl, hE⟩)
    | (go_at_call 7; refine (hmany.out oa oc w1 hE.out.1).mono ?_; rintro e w2 ⟨b2, d2, v1, rfl, hF⟩; have HB := Lib.hid (hE.out.1.trans (hF.out.2.mono hE.out.1.size)); have HX := Lib.hid (hVals.out oa w1 hE.out.2 w2 hF.out.2))
    | (go_at_call 9; refine (hcom _).out.mono ?_; rintro e w3 ⟨rfl, rfl⟩)
    | (go_at_call 8; refine (hinf.out oa oc b2 d2 w2 HB.out HX.out hF.out.1).mono ?_; rintro e w4 ⟨n4, a4, c4, a5, c5, rfl, hG⟩)
    | (go_at_call 10; refine hG.out.2.1.mono ?_; rintro e w5 ⟨rfl, rfl⟩)
    | (go_at_call 11; refine hG.out.2.2.mono ?_; rintro e w5 ⟨rfl, rfl⟩)
    | (go_at_call 12; refine (hsane _).out.mono ?_; rintro e w6 ⟨rfl, hb6⟩; have HB6 := Lib.hid hb6; clear hb6))
  go_ret
  have s0 := HB.out.size
  have b1 := hG.out.1
  have s1 := b1.size
  exact ⟨rfl, (HB.out.trans (b1.mono s0)).trans (HB6.out.mono (by omega))⟩
end Go.Proofs.YthcgojhfbcgaiaaGreatDoor

namespace Go.Proofs.YthcgojhfbcgaiaaGreatDoor
open Go.ChangeShapes Go.WideShapes Go.ChangeAt Go.RowKit Go.Proofs

theorem gSin : Tryz.prog.globalNamed "math._sin" = some 2 := by kernel_rfl
theorem gCos : Tryz.prog.globalNamed "math._cos" = some 1 := by kernel_rfl
theorem gP4 : Tryz.prog.globalNamed "math.mPi4" = some 3 := by kernel_rfl
theorem tSin : (Tryz.prog.globals[2]?).map (·.type) = some 139 := by kernel_rfl
theorem tCos : (Tryz.prog.globals[1]?).map (·.type) = some 139 := by kernel_rfl

/-- The list that the rows bear. -/
def laidL : List (String × DataW Unit) := [("math._sin", Rows.laid_math_sin), ("math._cos", Rows.laid_math_cos), ("math.mPi4", Rows.laid_math_mPi4)]

theorem door_met (os : Os) (args : Array Value) : laidMetH Tryz.prog laidL ((World.doorLaid Tryz.prog 400 os).forCall (fun _ _ => 0) ⟨#[], args, []⟩).memory :=
  laidMetH_of_parts3 (fuel := 8) (laidMet_of_run' 8 (by kernel_rfl) (by kernel_rfl)) (by kernel_rfl) (by kernel_rfl)

section
variable {P : Program} {H : Type} {enc : TypeId × Value → H} {w : World} {base : Nat} {spare : Nat → Bool} {held : Bool} {fuel : Nat} {t : TypeId} {cs : List Value} {x : DataW H × List MemPlace}
theorem trod_float {k : FloatKind} (ht : P.underlying t = some (.float k)) (h : DataW.trod enc P w base spare held fuel t cs = some x) : ∃ n, cs = [.float k n] ∧ x = (.lit (.float k n), []) := by
  cases fuel with
  | zero => simp [DataW.trod] at h
  | succ n =>
    unfold DataW.trod at h
    rw [ht] at h
    split at h <;> simp_all
end

theorem one_of_drop {cs : List Value} {i : Nat} {v : Value} (h : (cs.drop (i * 1)).take 1 = [v]) : cs[i]? = some v := by
  have : ((cs.drop (i * 1)).take 1)[0]? = some v := by rw [h]; rfl
  simpa using this
/-- A table of six floats, read as data, lies in the variable's cells. -/
theorem six_of {W : World} {fuel : Nat} {base : Nat} {spare : Nat → Bool} {held : Bool} {cs : List Value} {K : Nat → Nat} {m : List MemPlace}
    (h : DataW.trod (fun _ => ()) Tryz.prog W base spare held fuel 139 cs = some (DataW.agg [.lit (.float .f64 (K 0)), .lit (.float .f64 (K 1)), .lit (.float .f64 (K 2)), .lit (.float .f64 (K 3)), .lit (.float .f64 (K 4)), .lit (.float .f64 (K 5))], m)) :
    ∀ i, i < 6 → cs[i]? = some (.float .f64 (K i)) := by
  obtain ⟨xs, m1, rfl, hx1, hlen, hn3, hel⟩ := DataW.trod_array Tryz.underlying139 h
  have c1 : Tryz.prog.cellsOf 29 = 1 := by kernel_rfl
  rw [c1] at hel
  simp only [Prod.mk.injEq, DataW.agg.injEq] at hx1
  intro i hi
  have hi' := hel i hi
  have hx : (xs.map (·.1))[i]? = some (.lit (.float .f64 (K i))) := by
    rw [← hx1.1]
    match i, hi with
    | 0, _ => rfl
    | 1, _ => rfl
    | 2, _ => rfl
    | 3, _ => rfl
    | 4, _ => rfl
    | 5, _ => rfl
  rw [List.getElem?_map] at hx
  cases e : xs[i]? with
  | none => rw [e] at hx; simp at hx
  | some y =>
    rw [e] at hx hi'
    obtain ⟨n, e1, e2⟩ := trod_float Tryz.underlying29 hi'
    rw [e2] at hx
    have : n = K i := by simpa using hx
    rw [← this]
    exact one_of_drop e1

theorem mp_table {c : Nat} (h : miB c 1 = true) : Mp c 0 := (mi_const h).toMp (by omega)
theorem tab_of {W : World} {b : Nat} {K : Nat → Nat} (h : ∀ i, i < 6 → W.cell? ⟨b, i, none⟩ = some (.float .f64 (K i))) (m0 : miB (K 0) 1 = true) (m1 : miB (K 1) 1 = true) (m2 : miB (K 2) 1 = true) (m3 : miB (K 3) 1 = true) (m4 : miB (K 4) 1 = true) (m5 : miB (K 5) 1 = true) : Tab6 W b K :=
  ⟨K 0, K 1, K 2, K 3, K 4, K 5, ⟨rfl, rfl, rfl, rfl, rfl, rfl⟩, h 0 (by omega), h 1 (by omega), h 2 (by omega), h 3 (by omega), h 4 (by omega), h 5 (by omega), mp_table m0, mp_table m1, mp_table m2, mp_table m3, mp_table m4, mp_table m5⟩

/-- WHAT THE CONDITION GIVES THE WALKS. -/
theorem of_laid {W : World} (h : laidMetH Tryz.prog laidL W) : Tab6 W 1 cosK ∧ Tab6 W 2 sinK ∧ 3 ≤ W.heap.size := by
  rw [MakeChecks.laidMetH_plain _ _ _ (by kernel_rfl)] at h
  obtain ⟨ps, ⟨g0, t0, cs0, f0, p0, q0, hg0, ht0, hv0, hd0, ⟨g1, t1, cs1, f1, p1, q1, hg1, ht1, hv1, hd1, _, _⟩, _⟩, _, _⟩ := h
  obtain rfl := Option.some.inj (gSin.symm.trans hg0)
  obtain rfl := Option.some.inj (gCos.symm.trans hg1)
  obtain rfl := Option.some.inj (tSin.symm.trans ht0)
  obtain rfl := Option.some.inj (tCos.symm.trans ht1)
  have a := six_of (K := sinK) hd0
  have b := six_of (K := cosK) hd1
  have a' : ∀ i, i < 6 → W.cell? ⟨2, i, none⟩ = some (.float .f64 (sinK i)) := fun i hi => by
    rw [World.var?_cell hg0 hv0 i]; simpa using a i hi
  have b' : ∀ i, i < 6 → W.cell? ⟨1, i, none⟩ = some (.float .f64 (cosK i)) := fun i hi => by
    rw [World.var?_cell hg1 hv1 i]; simpa using b i hi
  refine ⟨tab_of b' (by decide +kernel) (by decide +kernel) (by decide +kernel) (by decide +kernel) (by decide +kernel) (by decide +kernel), tab_of a' (by decide +kernel) (by decide +kernel) (by decide +kernel) (by decide +kernel) (by decide +kernel) (by decide +kernel), ?_⟩
  have := World.block_lt_of_cell? W _ (a' 0 (by omega))
  exact this
end Go.Proofs.YthcgojhfbcgaiaaGreatDoor
