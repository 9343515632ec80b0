/- The inner stream's query. Conditions: the stream and its summary lie in memory. -/
import Derived.Test.YthcgojhfbcgaiaaTgtCmp
import Derived.Test.YthcgojhfbcgaiaaCkmsL
namespace Go.Proofs.Ythcgojhfbcgaiaa
open Go.RowKit Go.Sort Go.Proofs
open Ckms (Sm tot)

theorem above_between {x c : Nat} (h0 : 0 < c) (h1 : FP 20 (2 ^ 20 * (c - 1) + 1) ≤ x) (h2 : x ≤ FP 0 c) (hc : c < 2 ^ 30) : aboveOf x = c := by
  have a := rungVal_mono h1
  have b := rungVal_mono h2
  have ea := (FP_spec (p := 20) (j := 2 ^ 20 * (c - 1) + 1) (by omega) (by omega)).2
  have eb := (FP_spec (p := 0) (j := c) (by omega) (by omega)).2
  rw [Nat.pow_zero, Nat.mul_one] at eb
  rw [eb] at b
  have hp := Nat.two_pow_pos E74
  have a' : (c - 1) * 2 ^ E74 < rungVal x := by
    refine Nat.lt_of_mul_lt_mul_right (a := 2 ^ 20) ?_
    refine Nat.lt_of_lt_of_le ?_ (Nat.mul_le_mul_right _ a)
    rw [ea]
    have e : (c - 1) * 2 ^ E74 * 2 ^ 20 = 2 ^ 20 * (c - 1) * 2 ^ E74 := by ac_rfl
    rw [e]
    exact Nat.mul_lt_mul_of_pos_right (by omega) hp
  unfold aboveOf
  rw [Nat.div_eq_iff hp]
  obtain ⟨c', rfl⟩ : ∃ c', c = c' + 1 := ⟨c - 1, by omega⟩
  rw [Nat.add_sub_cancel] at a'
  rw [Nat.add_mul, Nat.one_mul] at b ⊢
  constructor <;> omega

set_option maxRecDepth 100000 in
set_option maxHeartbeats 4000000 in
theorem inquery_calls {w : World} {base top S T Q QA B k m n : Nat} {so : Bool} {bc : Array Value} {lv : Value} (p0 : Sm) (Z0 : List Sm) (hk1 : 1 ≤ k) (hk2 : k ≤ 15)
    (h : MS w base top S T Q QA B k m n so bc lv ((p0 :: Z0).map smF)) (hn : n ≤ 1200) (hn1 : 1 ≤ n) (hL : Ckms.LOk (p0 :: Z0) n) :
    Calls Try.prog 46 #[.pointer (some ⟨T, 0, none⟩), .float .f64 (FX (k : Int))] w fun r w' => r = .returned (.float .f64 (fN (Ckms.query (Ckms.tq k n) p0 Z0 0)).b) ∧
      MS w' base top S T Q QA B k m n so bc lv ((p0 :: Z0).map smF) ∧ RowKit.Below base w w' := by
  obtain ⟨oa, oc, hlv⟩ := own_slice h.own
  rw [List.length_map] at hlv
  subst hlv
  obtain ⟨g, cap, cur, q1, q2, q3, q4, q5, q6, q7⟩ : ∃ g cap cur, Value.slice oa (p0 :: Z0).length oc = .slice (some ⟨g, 0, none⟩) ((p0 :: Z0).map smF).length cap ∧ top ≤ g ∧ w.heap[g]? = some (.cells cur 88) ∧ ((p0 :: Z0).map smF).length ≤ cap ∧ cap ≤ maxLen ∧ cur.size = cap * 3 ∧ BufIs cur ((p0 :: Z0).map smF) := by
    rcases own_open h.own with ⟨_, h0⟩ | h0
    · simp at h0
    · exact h0
  obtain ⟨rfl, _, rfl⟩ : oa = some ⟨g, 0, none⟩ ∧ True ∧ oc = cap := by injection q1 with a1 a2 a3; exact ⟨a1, trivial, a3⟩
  rw [List.length_map] at q4
  obtain ⟨ln, hln⟩ : ∃ ln, ln = (p0 :: Z0).length := ⟨_, rfl⟩
  rw [← hln] at h q4 ⊢
  have hln1 : ln = Z0.length + 1 := by rw [hln]; simp
  obtain ⟨c, hc⟩ : ∃ c, c = (k * n + 15) / 16 := ⟨_, rfl⟩
  have hkn : k * n ≤ 15 * 1200 := Nat.mul_le_mul hk2 hn
  have hkn15 : k * n ≤ 15 * n := Nat.mul_le_mul_right n hk2
  have hkn1 : 1 * 1 ≤ k * n := Nat.mul_le_mul hk1 hn1
  have hcn : c ≤ n := by omega
  have hc1 : 0 < c := by omega
  have hcl : k * n ≤ 16 * c := by omega
  obtain ⟨c2, hc2⟩ : ∃ c2, c2 = (8 * c + 25 * k - 1) / (25 * k) := ⟨_, rfl⟩
  have hc20 : 0 < c2 := by rw [hc2]; exact Nat.div_pos (by omega) (by omega)
  have hc2b : c2 < 2 ^ 20 := by rw [hc2]; exact Nat.lt_of_le_of_lt (Nat.div_le_self _ _) (by omega)
  obtain ⟨H, hH1, hH2, hH3, hH4⟩ := gOf_half k c n hk1 hk2 (by omega) hcl hc1
  rw [← hc2] at hH3 hH4
  obtain ⟨t, ht⟩ : ∃ t, t = c + c2 := ⟨_, rfl⟩
  have htq : Ckms.tq k n = t := by unfold Ckms.tq; rw [← hc, ← hc2, ht]
  have htb : t < 2 ^ 30 := by omega
  obtain ⟨nf, hnf⟩ : ∃ nf, nf = floatOfInt .f64 (n : Int) := ⟨_, rfl⟩
  obtain ⟨cf, hcf⟩ : ∃ cf, cf = floatOfInt .f64 (c : Int) := ⟨_, rfl⟩
  obtain ⟨c2f, hc2f⟩ : ∃ c2f, c2f = floatOfInt .f64 (c2 : Int) := ⟨_, rfl⟩
  obtain ⟨tf, htf⟩ : ∃ tf, tf = floatOfInt .f64 (t : Int) := ⟨_, rfl⟩
  obtain ⟨kf, hkf⟩ : ∃ kf, kf = FX (k : Int) := ⟨_, rfl⟩
  obtain ⟨knf, hknf⟩ : ∃ knf, knf = FX ((k * n : Nat) : Int) := ⟨_, rfl⟩
  obtain ⟨G, hG⟩ : ∃ G, G = gOf k c n := ⟨_, rfl⟩
  have a1 := run_mul (x := kf) (y := nf) (r := knf) (by rw [hkf, hnf, hknf, FI_FX n (by omega)]; exact FX_mul (by omega) (by omega) (by omega) (by rw [← Nat.mul_assoc, Nat.mul_comm k 16, Nat.mul_assoc]))
  have a2 : Hid (∀ w, Calls Try.prog 43 #[.float .f64 knf] w fun e w' => e = .returned (.float .f64 cf) ∧ w = w') := Lib.hid (by
    intro w
    have := ceil_calls (FX ((k * n : Nat) : Int)) (FX_lt _ (by omega)) w
    rw [aboveOf_FX _ (by omega), ← hc, ← hcf, ← hknf] at this; exact this)
  have a3 := run_quo (x := G) (y := 4611686018427387904) (r := H) (by rw [hG]; exact hH1)
  have a4 : Hid (∀ w, Calls Try.prog 43 #[.float .f64 H] w fun e w' => e = .returned (.float .f64 c2f) ∧ w = w') := Lib.hid (by
    intro w
    have := ceil_calls H hH2 w
    rw [above_between hc20 hH3 hH4 (by omega), ← hc2f] at this; exact this)
  have a5 := run_fadd (x := cf) (y := c2f) (r := tf) (by rw [hcf, hc2f, htf, ht]; exact fi_add c c2 (by omega) (by omega))
  have hcc : ∀ (w' : World), MS w' base top S T Q QA B k m n so bc (.slice (some ⟨g, 0, none⟩) ln oc) ((p0 :: Z0).map smF) → ∀ j, j < ln → ∀ i, i < 3 → w'.cell? ⟨g, j * 3 + i, none⟩ = some (encSmp (smF ((p0 :: Z0)[j]!)))[i]! := fun w' hw j hj i hi => by
    rcases own_open hw.own with ⟨h0, _⟩ | ⟨g', cap', cur, a1, a2, a3, a4, a5, a6, a7⟩
    · cases h0
    · obtain ⟨rfl, rfl⟩ : g = g' ∧ oc = cap' := by injection a1 with b1 b2 b3; injection b1 with b1; injection b1 with b1; exact ⟨b1, b3⟩
      have hlt : j < ((p0 :: Z0).map smF).length := by rw [List.length_map, ← hln]; exact hj
      refine cell_of a3 ?_
      rw [some_of_get! (by omega), a7.2 j hlt i hi, getElem!_pos (List.map smF (p0 :: Z0)) j hlt, getElem!_pos (p0 :: Z0) j (by rw [← hln]; exact hj), List.getElem_map]
  have hcc3 : ∀ (w' : World), MS w' base top S T Q QA B k m n so bc (.slice (some ⟨g, 0, none⟩) ln oc) ((p0 :: Z0).map smF) → w'.cell? ⟨g, 0, none⟩ = some (.float .f64 (fN p0.v).b) ∧ w'.cell? ⟨g, 1, none⟩ = some (.float .f64 (floatOfInt .f64 (p0.g : Int))) ∧ w'.cell? ⟨g, 2, none⟩ = some (.float .f64 (floatOfInt .f64 (p0.d : Int))) := fun w' hw => by
    have e := hcc w' hw 0 (by omega)
    exact ⟨e 0 (by omega), e 1 (by omega), e 2 (by omega)⟩
  have hclo : Hid (Calls Try.prog 39 #[.pointer (some ⟨T, 0, none⟩), .float .f64 cf, .pointer (some ⟨Q, 0, none⟩)] w fun e w' => e = .returned (.float .f64 G) ∧
      w'.cell? ⟨T, 1, none⟩ = some (.slice (some ⟨g, 0, none⟩) ln oc) ∧ (∀ o, (w'.alloc o).cell? ⟨T, 1, none⟩ = some (.slice (some ⟨g, 0, none⟩) ln oc)) ∧
      (w'.cell? ⟨g, 0, none⟩ = some (.float .f64 (fN p0.v).b) ∧ w'.cell? ⟨g, 1, none⟩ = some (.float .f64 (floatOfInt .f64 (p0.g : Int))) ∧ w'.cell? ⟨g, 2, none⟩ = some (.float .f64 (floatOfInt .f64 (p0.d : Int)))) ∧
      (∀ o, (w'.alloc o).cell? ⟨g, 0, none⟩ = some (.float .f64 (fN p0.v).b) ∧ (w'.alloc o).cell? ⟨g, 1, none⟩ = some (.float .f64 (floatOfInt .f64 (p0.g : Int))) ∧ (w'.alloc o).cell? ⟨g, 2, none⟩ = some (.float .f64 (floatOfInt .f64 (p0.d : Int)))) ∧
      Hid (MS w' base top S T Q QA B k m n so bc (.slice (some ⟨g, 0, none⟩) ln oc) ((p0 :: Z0).map smF) ∧ RowKit.Below base w w')) := Lib.hid (by
    rw [hcf, hG]
    refine (clo_calls k c n hk1 hk2 hcn hn h.str).mono ?_
    rintro e w' ⟨rfl, d, rfl⟩
    have hms : MS (cloW w (FX (k : Int)) 4581421828931458171 d) base top S T Q QA B k m n so bc (.slice (some ⟨g, 0, none⟩) ln oc) ((p0 :: Z0).map smF) := by unfold cloW; exact (h.alloc _).drewN d
    exact ⟨rfl, cell_of hms.str.hT rfl, fun o => cell_of (at_alloc o hms.str.hT) rfl, hcc3 _ hms, fun o => hcc3 _ (hms.alloc o), hms, by unfold cloW; exact below_drewN ((RowKit.Below.refl _ _).alloc (by have := h.bt; have := h.sz; omega) _) d⟩)
  have u0 : w.cell? ⟨T, 0, none⟩ = some (.float .f64 nf) := by rw [hnf]; exact cell_of h.str.hT rfl
  have u2 : w.cell? ⟨T, 2, none⟩ = some (.func (.func 39) #[] #[.pointer (some ⟨Q, 0, none⟩)]) := cell_of h.str.hT rfl
  obtain ⟨z, hz⟩ : ∃ z, z = Z0.length := ⟨_, rfl⟩
  obtain ⟨o1, ho1⟩ : ∃ o1, oc = o1 + 1 := ⟨oc - 1, by omega⟩
  have hlz : ln = z + 1 := by omega
  have hzo : z ≤ o1 := by omega
  have hz12 : z ≤ 1200 := by
    have := lenTot (p0 :: Z0) (fun y hy => (hL.el y hy).2.1)
    rw [hL.tot, ← hln] at this; omega
  have Hh := Lib.hid h
  have HL := Lib.hid hL
  have Hcc := Lib.hid hcc
  have Hln := Lib.hid hln
  have Hz := Lib.hid hz
  have Htf := Lib.hid htf
  have Htq := Lib.hid htq
  have hgl : Hid (g < w.heap.size) := Lib.hid (lt_of_at q3)
  rw [← hkf, htq]
  subst hlz ho1
  clear h hL hcc hcc3 hln hz htf htq q1 q2 q3 q4 q5 q6 q7 hln1 hc hkn hkn15 hkn1 hcn hc1 hcl hc2 hc20 hc2b hH1 hH2 hH3 hH4 ht hnf hcf hc2f hkf hknf hG
  go_enter Try.func46, Try.ntmps46
  rcases Nat.eq_zero_or_pos o1 with ho | ho
  · subst ho
    obtain rfl : z = 0 := by omega
    have hZ0 : Z0 = [] := List.eq_nil_of_length_eq_zero Hz.out.symm
    subst hZ0
    clear hzo hz12 Hln Hz Hcc Htf HL
    go_wp2_with (first
      | (go_at_call 43; first | (refine (a2.out _).mono ?_; rintro e w' ⟨rfl, rfl⟩) | (refine (a4.out _).mono ?_; rintro e w' ⟨rfl, rfl⟩))
      | (go_at_call 39; refine hclo.out.mono ?_; rintro e w4 ⟨rfl, y1, y1a, ⟨k0, k1, k2⟩, kk, hM4⟩))
    refine wp_loop_rounds 1 ?_
    rw [rounds_succ]
    go_wp2_with fail
    go_ret
    exact ⟨rfl, hM4.out.1.alloc _, hM4.out.2.alloc (by have := hM4.out.1.bt; have := hM4.out.1.sz; omega) _⟩
  have ho' : ¬ o1 = 0 := by omega
  go_wp2_with (first
    | (go_at_call 43; first | (refine (a2.out _).mono ?_; rintro e w' ⟨rfl, rfl⟩) | (refine (a4.out _).mono ?_; rintro e w' ⟨rfl, rfl⟩))
    | (go_at_call 39; refine hclo.out.mono ?_; rintro e w4 ⟨rfl, y1, y1a, ⟨k0, k1, k2⟩, kk, hM4⟩))
  obtain ⟨X, hX⟩ : ∃ X, X = w4.heap.size := ⟨_, rfl⟩
  have HC : Hid (CMem w (w4.alloc (.cells #[.float .f64 (fN p0.v).b, .float .f64 (floatOfInt .f64 (p0.g : Int)), .float .f64 (floatOfInt .f64 (p0.d : Int))] 88)) base top S T Q QA B k m n X so bc (.slice (some ⟨g, 0, none⟩) (z + 1) (o1 + 1)) ((p0 :: Z0).map smF) p0) := by
    have h := hM4.out
    refine Lib.hid ⟨h.1.alloc _, h.2.alloc (by have := h.1.bt; have := h.1.sz; omega) _, ?_, by rw [hX]; exact h.1.sz, fun q hq => by rw [hX]; exact (h.1.own.lt q hq).2⟩
    rw [hX]; exact hp_at w4 _ _ rfl
  rw [← hX]
  clear hX y1 y1a k0 k1 k2 kk hM4 a1 a2 a3 a4 a5 hclo u0 u2 hgl Hh
  go_loopw [7, 40] (fun s7 s40 wr => ∃ (Pre : List Sm) (p : Sm) (Z : List Sm), s40 = .int .i64 Pre.length ∧ s7 = .float .f64 (floatOfInt .f64 (tot Pre : Int)) ∧ Hid (p0 :: Z0 = Pre ++ p :: Z) ∧ Hid (Ckms.query t p Z (tot Pre) = Ckms.query t p0 Z0 0) ∧
      Hid (CMem w wr base top S T Q QA B k m n X so bc (.slice (some ⟨g, 0, none⟩) (z + 1) (o1 + 1)) ((p0 :: Z0).map smF) p))
    (fun _ s40 _ => z - (intOf s40).toNat)
  case atStart => exact ⟨[], p0, Z0, rfl, by rw [show (tot [] : Nat) = 0 from rfl, nan0], rfl, rfl, HC⟩
  case round =>
    obtain ⟨Pre, p, Z, rfl, rfl, hE, hQ, hM⟩ := hrel
    have xc0 : wr.cell? ⟨X, 0, none⟩ = some (.float .f64 (fN p.v).b) := cell_of hM.out.hx rfl
    cases Z with
    | nil =>
      have hzl : Hid (Pre.length = z) := Lib.hid (by have := congrArg List.length hE.out; simp at this; have := Hz.out; omega)
      have hnl : ¬ Pre.length < z := by have := hzl.out; omega
      have HQ2 : Hid (p.v = Ckms.query t p0 Z0 0) := Lib.hid hQ.out
      go_wp2_with fail
      go_ret
      refine ⟨?_, hM.out.ms, hM.out.bel⟩
      show Ending.returned (.float .f64 (fN p.v).b) = _
      rw [HQ2.out]
    | cons c Z =>
      have hlen : Pre.length + Z.length + 1 = z := by have := congrArg List.length hE.out; simp at this; have := Hz.out; omega
      have hlt : Pre.length < z := by omega
      have hPl : Pre.length ≤ 1200 := by omega
      have hcm : c ∈ p0 :: Z0 := by rw [hE.out]; simp
      have hpm : p ∈ p0 :: Z0 := by rw [hE.out]; simp
      have hct := HL.out.el c hcm
      have htt : tot Pre + p.g + c.g ≤ n := by
        have := HL.out.tot
        rw [hE.out, Ckms.tot_append] at this
        simp only [tot] at this; omega
      have hget : (p0 :: Z0)[Pre.length + 1]! = c := by rw [hE.out]; simp
      have hc3 : ∀ i, i < 3 → wr.cell? ⟨g, 3 + Pre.length * 3 + i, none⟩ = some (encSmp (smF c))[i]! := fun i hi => by
        have := Hcc.out wr hM.out.ms (Pre.length + 1) (by omega) i hi
        rw [hget] at this
        rw [show 3 + Pre.length * 3 + i = (Pre.length + 1) * 3 + i by omega]; exact this
      have k0 : wr.cell? ⟨g, 3 + Pre.length * 3, none⟩ = some (.float .f64 (fN c.v).b) := hc3 0 (by omega)
      have k1 : wr.cell? ⟨g, 3 + Pre.length * 3 + 1, none⟩ = some (.float .f64 (floatOfInt .f64 (c.g : Int))) := hc3 1 (by omega)
      have k2 : wr.cell? ⟨g, 3 + Pre.length * 3 + 2, none⟩ = some (.float .f64 (floatOfInt .f64 (c.d : Int))) := hc3 2 (by omega)
      obtain ⟨r0, hr0⟩ : ∃ r0, r0 = floatOfInt .f64 (tot Pre : Int) := ⟨_, rfl⟩
      obtain ⟨r1, hr1⟩ : ∃ r1, r1 = floatOfInt .f64 ((tot Pre + p.g : Nat) : Int) := ⟨_, rfl⟩
      obtain ⟨r2, hr2⟩ : ∃ r2, r2 = floatOfInt .f64 ((tot Pre + p.g + c.g : Nat) : Int) := ⟨_, rfl⟩
      obtain ⟨r3, hr3⟩ : ∃ r3, r3 = floatOfInt .f64 ((tot Pre + p.g + c.g + c.d : Nat) : Int) := ⟨_, rfl⟩
      have b1 := run_fadd (x := r0) (y := floatOfInt .f64 (p.g : Int)) (r := r1) (by rw [hr0, hr1]; exact fi_add (tot Pre) p.g (by omega) (by omega))
      have b2 := run_fadd (x := r1) (y := floatOfInt .f64 (c.g : Int)) (r := r2) (by rw [hr1, hr2]; exact fi_add (tot Pre + p.g) c.g (by omega) (by omega))
      have b3 := run_fadd (x := r2) (y := floatOfInt .f64 (c.d : Int)) (r := r3) (by rw [hr2, hr3]; exact fi_add (tot Pre + p.g + c.g) c.d (by omega) (by omega))
      have hgt : (FloatKind.f64.format.order r3 tf == some .gt) = decide (t < tot Pre + p.g + c.g + c.d) := by rw [hr3, Htf.out]; exact fi_gt _ _ (by omega) (by omega)
      obtain ⟨C, hC⟩ : ∃ C, C = wr.heap.size := ⟨_, rfl⟩
      obtain ⟨wc, hwc⟩ : ∃ wc : World, wc = wr.alloc (.cells #[.float .f64 (fN c.v).b, .float .f64 (floatOfInt .f64 (c.g : Int)), .float .f64 (floatOfInt .f64 (c.d : Int))] 88) := ⟨_, rfl⟩
      have hMc : CMem w wc base top S T Q QA B k m n X so bc (.slice (some ⟨g, 0, none⟩) (z + 1) (o1 + 1)) ((p0 :: Z0).map smF) p := by
        rw [hwc]
        exact ⟨hM.out.ms.alloc _, hM.out.bel.alloc (by have := hM.out.ms.bt; have := hM.out.ms.sz; omega) _, at_alloc _ hM.out.hx, hM.out.far⟩
      have hCc : wc.heap[C]? = some (.cells #[.float .f64 (fN c.v).b, .float .f64 (floatOfInt .f64 (c.g : Int)), .float .f64 (floatOfInt .f64 (c.d : Int))] 88) := by rw [hwc, hC]; exact hp_at _ _ _ rfl
      have hXC : ¬ C = X := by have := lt_of_at hM.out.hx; omega
      have HMc := Lib.hid hMc
      have HCc := Lib.hid hCc
      rw [← hr0]
      have Hr1 := Lib.hid hr1
      clear hMc hCc hc3 hcm hpm hct htt hget hr0 hr1 hr2 hr3 hlen
      go_upto_region 8 with fail
      rw [← hwc, ← hC]
      clear hwc hC k0 k1 k2 xc0
      have u1 : wc.cell? ⟨X, 1, none⟩ = _ := cell_of HMc.out.hx rfl
      have u0 : wc.cell? ⟨X, 0, none⟩ = _ := cell_of HMc.out.hx rfl
      have f0 : wc.frozen? ⟨X, 0, none⟩ = false := free_of HMc.out.hx
      have f1 : wc.frozen? ⟨X, 1, none⟩ = false := free_of HMc.out.hx
      have f2 : wc.frozen? ⟨X, 2, none⟩ = false := free_of HMc.out.hx
      have u2 : wc.cell? ⟨X, 2, none⟩ = _ := cell_of HMc.out.hx rfl
      have v0 : wc.cell? ⟨C, 0, none⟩ = _ := cell_of HCc.out rfl
      have v1 : wc.cell? ⟨C, 1, none⟩ = _ := cell_of HCc.out rfl
      have v2 : wc.cell? ⟨C, 2, none⟩ = _ := cell_of HCc.out rfl
      by_cases ht : t < tot Pre + p.g + c.g + c.d
      · rw [decide_eq_true ht] at hgt
        have HQ2 : Hid (p.v = Ckms.query t p0 Z0 0) := Lib.hid (by
          have hQ2 := hQ.out
          rw [Ckms.query, if_pos ht] at hQ2
          exact hQ2)
        clear ht
        go_wp2_with fail
        go_ret
        refine ⟨?_, HMc.out.ms, HMc.out.bel⟩
        show Ending.returned (.float .f64 (fN p.v).b) = _
        rw [HQ2.out]
      · rw [decide_eq_false ht] at hgt
        obtain ⟨w5, hw5⟩ : ∃ w5 : World, w5 = ((wc.setCell ⟨X, 0, none⟩ (.float .f64 (fN c.v).b)).setCell ⟨X, 1, none⟩ (.float .f64 (floatOfInt .f64 (c.g : Int)))).setCell ⟨X, 2, none⟩ (.float .f64 (floatOfInt .f64 (c.d : Int))) := ⟨_, rfl⟩
        have HM5 : Hid (CMem w w5 base top S T Q QA B k m n X so bc (.slice (some ⟨g, 0, none⟩) (z + 1) (o1 + 1)) ((p0 :: Z0).map smF) c) := by
          have h0 := HMc.out
          have e1 := h0.ms_set 0 (.float .f64 (fN c.v).b)
          have f1 : CMem w (wc.setCell ⟨X, 0, none⟩ (.float .f64 (fN c.v).b)) base top S T Q QA B k m n X so bc (.slice (some ⟨g, 0, none⟩) (z + 1) (o1 + 1)) ((p0 :: Z0).map smF) ⟨c.v, p.g, p.d⟩ := ⟨e1.1, e1.2, at_set h0.hx 0 _, h0.far⟩
          have e2 := f1.ms_set 1 (.float .f64 (floatOfInt .f64 (c.g : Int)))
          have f2 : CMem w ((wc.setCell ⟨X, 0, none⟩ (.float .f64 (fN c.v).b)).setCell ⟨X, 1, none⟩ (.float .f64 (floatOfInt .f64 (c.g : Int)))) base top S T Q QA B k m n X so bc (.slice (some ⟨g, 0, none⟩) (z + 1) (o1 + 1)) ((p0 :: Z0).map smF) ⟨c.v, c.g, p.d⟩ := ⟨e2.1, e2.2, at_set f1.hx 1 _, f1.far⟩
          have e3 := f2.ms_set 2 (.float .f64 (floatOfInt .f64 (c.d : Int)))
          rw [hw5]
          exact Lib.hid ⟨e3.1, e3.2, at_set f2.hx 2 _, f2.far⟩
        have HQ5 : Hid (Ckms.query t c Z (tot (Pre ++ [p])) = Ckms.query t p0 Z0 0) := Lib.hid (by
          have hQ2 := hQ.out
          rw [Ckms.query, if_neg ht] at hQ2
          rw [Ckms.tot_append, show tot [p] = p.g by simp [tot]]; exact hQ2)
        have HE5 : Hid (p0 :: Z0 = (Pre ++ [p]) ++ c :: Z) := Lib.hid (by rw [hE.out]; simp)
        have HW5 := Lib.hid hw5
        clear hw5 ht
        go_wp2_with fail
        go_roundw
        case rel => exact ⟨Pre ++ [p], c, Z, by rw [List.length_append]; go_num, by rw [Hr1.out, Ckms.tot_append]; simp [tot], HE5, HQ5, by rw [← HW5.out]; exact HM5⟩
        case measure => simp [intOf]; omega
end Go.Proofs.Ythcgojhfbcgaiaa
