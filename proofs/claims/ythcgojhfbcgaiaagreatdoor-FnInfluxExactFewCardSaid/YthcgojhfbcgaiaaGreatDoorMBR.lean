/- impl.Influx: the means and the weights of the digest's centroids, and its count. Conditions: the values and the weights lie in memory. -/
import Derived.OwnWalk
import Derived.Test.YthcgojhfbcgaiaaGreatDoorMBQ

namespace Go.Proofs.YthcgojhfbcgaiaaGreatDoor
open Go.RowKit Go.Sort Go.Proofs

theorem ownsRow_low2 {w : World} {b b' s n : Nat} {e : TypeId} {v : Value} {xs : List Value} (h : w.ownsRow b e s v n xs) (hb : b' ≤ b) : w.ownsRow b' e s v n xs := by
  rcases h.2 with h1 | ⟨g, cap, cur, h1, h2, h3⟩
  · exact ⟨h.1, .inl h1⟩
  · exact ⟨h.1, .inr ⟨g, cap, cur, h1, by omega, h3⟩⟩
theorem ownsRow_same {w w' : World} {b s n : Nat} {e : TypeId} {v : Value} {xs : List Value} (h : w.ownsRow b e s v n xs) (hb : ∀ q, v.ownBlock = some q → w'.heap[q]? = w.heap[q]?) : w'.ownsRow b e s v n xs := by
  rcases h.2 with h1 | ⟨g, cap, cur, h1, h2, h3, h4⟩
  · exact ⟨h.1, .inl h1⟩
  · exact ⟨h.1, .inr ⟨g, cap, cur, h1, h2, (hb g (by rw [h1]; rfl)).trans h3, h4⟩⟩
theorem own_ne_ty {w : World} {b s n B : Nat} {e t : TypeId} {v : Value} {xs : List Value} {cur : Array Value} (h : w.ownsRow b e s v n xs) (hB : w.heap[B]? = some (.cells cur t)) (ht : e ≠ t) : v.ownBlock ≠ some B := fun hv => by
  rcases h.2 with ⟨h1, _⟩ | ⟨g, cap, cur', h1, _, h3, _⟩
  · rw [h1] at hv; cases hv
  · rw [h1] at hv
    have e' : g = B := by simpa [Value.ownBlock] using hv
    exact ne_ty h3 hB ht e'
/-- Two values of unlike rows. -/
def Apart (v1 v2 : Value) : Prop := ∀ q, v1.ownBlock = some q → v2.ownBlock ≠ some q
theorem Apart.symm {v1 v2 : Value} (h : Apart v1 v2) : Apart v2 v1 := fun q h2 h1 => h q h1 h2
theorem Apart.far {v1 v2 : Value} (h : Apart v1 v2) : v2.ownBlock = none ∨ v2.ownBlock ≠ v1.ownBlock := by
  cases e : v2.ownBlock with
  | none => exact .inl rfl
  | some q => right; intro h2; exact h q h2.symm e
theorem Apart.grow {v1 v1' v2 : Value} {w : World} {b s n : Nat} {e : TypeId} {xs : List Value} (h : Apart v1 v2) (h2 : w.ownsRow b e s v2 n xs) (hv : v1'.ownBlock = v1.ownBlock ∨ v1'.ownBlock = some w.heap.size) : Apart v1' v2 := fun q h1 h3 => by
  rcases hv with hv | hv
  · exact h q (by rw [← hv]; exact h1) h3
  · rw [hv] at h1
    injection h1 with h1
    have := (h2.lt q h3).2
    omega
theorem PM.later {S : List Nat} {w0 w w1 : World} {base g c : Nat} {l : Lo} {P U : List Cen} {X : List Nat} {pw uw mn mx : Nat} (h : PM S w0 w base g c l P U X pw uw mn mx) (hb : RowKit.Below w.heap.size w w1) : PM S w0 w1 base g c l P U X pw uw mn mx := by
  have blk : ∀ b, b < w.heap.size → w1.heap[b]? = w.heap[b]? := fun b hb' => hb.block b hb'
  exact ⟨(blk g (lt_of_at h.hd)).trans h.hd, h.rP.block (blk _ h.rP.lt), h.rU.block (blk _ h.rU.lt), h.rCfar fun cC' hF => blk _ hF.lt, h.ne, ⟨h.ge.1, h.ge.2.1, h.ge.2.2.1, Nat.le_trans h.ge.2.2.2 hb.size⟩, h.bel.trans (hb.mono h.ge.2.2.2),
    h.fr.sub (T := []) ⟨hb.size, fun b hb' _ => blk b hb'⟩ (fun b hb => by cases hb), h.inS⟩

def lsOf (f u : Nat → Nat) (k : Nat) : List Cen := (List.range k).map fun i => ⟨FI (f i), u i⟩
theorem lsOf_succ (f u : Nat → Nat) (k : Nat) : lsOf f u (k + 1) = lsOf f u k ++ [⟨FI (f k), u k⟩] := by simp [lsOf, List.range_succ]
theorem lsOf_len (f u : Nat → Nat) (k : Nat) : (lsOf f u k).length = k := by simp [lsOf]
theorem lsOf_wt {f u : Nat → Nat} {m : Nat} (h : ∀ i, u i ≤ m) (k : Nat) : wt (lsOf f u k) ≤ k * m := by
  induction k with
  | zero => simp [lsOf, wt]
  | succ k ih => rw [lsOf_succ, wt_append, wt_cons, wt_nil, Nat.succ_mul]; have := h k; show _ + (u k + 0) ≤ _; omega
def mV (L : List Cen) : List Value := L.map fun x => .float .f64 x.m
def wV (L : List Cen) : List Value := L.map fun x => .float .f64 (FI x.w)
theorem DS.start {w w' : World} {c lo hi : Nat} {l : Lo} (h : PM [] w w' w.heap.size w.heap.size c l [] [] [] 0 0 maxF minF) : DS w w' w.heap.size w.heap.size c lo hi [] :=
  ⟨l, [], [], [], maxF, minF, h, ⟨fun x hx => by simp at hx, rfl, .nil, Nat.le_refl _, .inl ⟨rfl, rfl, rfl⟩, fun h => absurd rfl h⟩, fun _ => ⟨rfl, rfl⟩⟩
theorem DS.bel {w0 w : World} {base g c lo hi : Nat} {L : List Cen} (h : DS w0 w base g c lo hi L) : RowKit.Below base w0 w := by
  obtain ⟨_, _, _, _, _, _, h, _⟩ := h
  exact h.bel

/-- What is left behind: some list of centroids. -/
def Left (c lo hi : Nat) (L P' : List Cen) : Prop :=
  (∃ (X' : List Nat) (mn' mx' : Nat), Inv lo hi P' [] X' mn' mx' L) ∧ (L.length ≤ 8 * c → L ≠ [] → ∃ y0 yr, (y0 :: yr).Perm L ∧ (y0 :: yr).Pairwise (fun a b => a.m ≤ b.m) ∧ P' = mergeL (limN c (wt L)) (lim0 c (wt L)) y0.w y0 yr)

set_option maxRecDepth 100000 in
set_option maxHeartbeats 4000000 in
theorem influx_calls {V cap Wb capW N c lo hi : Nat} {f u : Nat → Nat} {oa ob : Option Addr} {w : World} (E : Env w w.heap.size c hi)
    (hxs : 0 < N → oa = some ⟨V, 0, none⟩ ∧ V < w.heap.size ∧ ∀ i, i < N → w.cell? ⟨V, i, none⟩ = some (.float .f64 (FI (f i))))
    (hys : 0 < N → ob = some ⟨Wb, 0, none⟩ ∧ Wb < w.heap.size ∧ ∀ i, i < N → w.cell? ⟨Wb, i, none⟩ = some (.float .f64 (FI (u i))))
    (hN : N ≤ 300) (hf : ∀ i, i < N → lo ≤ FI (f i) ∧ FI (f i) ≤ hi) (hu : ∀ i, 1 ≤ u i ∧ u i ≤ 9) :
    Calls Tryz.prog 8 #[.slice oa N cap, .slice ob N capW, .int .i64 (c : Int)] w fun e w' => ∃ (P' : List Cen) (v1 v2 : Value), e = .returned (.tuple #[v1, v2, .float .f64 (FI (wt (lsOf f u N)))]) ∧
      Hid (Left c lo hi (lsOf f u N) P' ∧ w'.ownsRow w.heap.size 29 1 v1 P'.length (mV P') ∧ w'.ownsRow w.heap.size 29 1 v2 P'.length (wV P') ∧ RowKit.Below w.heap.size w w') := by
  have hnew := Lib.hid (new_calls E.c1 E.c2 w)
  have hwt : ∀ k, k ≤ 300 → wt (lsOf f u k) ≤ 2 ^ 20 := fun k hk => by
    have := lsOf_wt (f := f) (m := 9) (fun i => (hu i).2) k
    omega
  have hlen : ∀ k, k ≤ 300 → (lsOf f u k).length ≤ 2 ^ 20 := fun k hk => by rw [lsOf_len]; omega
  have HE := Lib.hid E
  have Hx := Lib.hid hxs
  have Hy := Lib.hid hys
  have Hf := Lib.hid hf
  have Hu := Lib.hid hu
  have Hw := Lib.hid hwt
  have Hlen := Lib.hid hlen
  have HN := Lib.hid hN
  have hNi : (N : Int) ≤ 300 := by omega
  have hci : (c : Int) ≤ 1000 := by have := E.c2; omega
  obtain ⟨i0, hi0, hz0, hz1, hz2⟩ := info_parts info_fl
  obtain ⟨g, hg⟩ : ∃ g, g = w.heap.size := ⟨_, rfl⟩
  rw [← hg] at hnew HE
  have Hg := Lib.hid hg
  clear E hxs hys hf hu hwt hlen hN hg
  go_enter Tryz.func8, Tryz.ntmps8
  go_wp2_with (go_at_call 17; refine hnew.out.mono ?_; rintro e w1 ⟨rfl, hD⟩)
  have HD : Hid (DS w w1 g g c lo hi (lsOf f u 0)) := Lib.hid (by
    obtain ⟨l, hl⟩ := hD.out
    have := hl
    rw [Hg.out] at this ⊢
    exact DS.start this)
  clear hD hnew
  go_loopw [21] (fun s21 wr => ∃ k : Nat, s21 = .int .i64 k ∧ Hid (k ≤ N ∧ DS w wr g g c lo hi (lsOf f u k)))
    (fun s21 _ => N - (intOf s21).toNat)
  case atStart => exact ⟨0, rfl, Lib.hid ⟨Nat.zero_le _, HD.out⟩⟩
  case round =>
    obtain ⟨k, rfl, hk⟩ := hrel
    have hkN : (k : Int) ≤ (N : Int) := by have := hk.out.1; omega
    rcases Nat.lt_or_ge k N with hlt | hge
    · obtain ⟨h1, h2⟩ := hk.out
      obtain ⟨rfl, x2, x3⟩ := Hx.out (by omega)
      obtain ⟨rfl, y2, y3⟩ := Hy.out (by omega)
      have hb := h2.bel
      rw [Hg.out] at hb
      have k0 : wr.cell? ⟨V, k, none⟩ = some (.float .f64 (FI (f k))) := (hb.cell x2).trans (x3 k hlt)
      have k1 : wr.cell? ⟨Wb, k, none⟩ = some (.float .f64 (FI (u k))) := (hb.cell y2).trans (y3 k hlt)
      have hadd := Lib.hid (add_calls HE.out h2 ⟨FI (f k), u k⟩ ⟨(Hf.out k hlt).1, (Hf.out k hlt).2, (Hu.out k).1⟩ (by rw [← lsOf_succ]; exact Hw.out (k + 1) (by have := HN.out; omega)) (by rw [← lsOf_succ]; exact Hlen.out (k + 1) (by have := HN.out; omega)))
      have hki : (k : Int) < (N : Int) := by omega
      obtain ⟨fk, hfk⟩ : ∃ x, x = FI (f k) := ⟨_, rfl⟩
      obtain ⟨uk, huk⟩ : ∃ x, x = FI (u k) := ⟨_, rfl⟩
      simp only [← hfk, ← huk] at k0 k1 hadd
      have Hfk := Lib.hid hfk
      clear h1 h2 x2 x3 y2 y3 hb hfk huk
      go_wp2_with (go_at_call 18; refine hadd.out.mono ?_; rintro e w2 ⟨rfl, hD2⟩)
      go_roundw
      case rel => exact ⟨k + 1, by go_num, Lib.hid ⟨by omega, by rw [lsOf_succ, ← Hfk.out]; exact hD2.out⟩⟩
      case measure => simp [intOf]; omega
    · obtain rfl : k = N := by have := hk.out.1; omega
      have hcen := Lib.hid (centroids_calls HE.out hk.out.2 (Hw.out k HN.out) (Hlen.out k HN.out))
      have HbW := Lib.hid hk.out.2.bel
      clear hk hge hkN HD Hx Hy
      go_wp2_with (go_at_call 19; refine hcen.out.mono ?_; rintro e w2 ⟨B, P', rfl, hC⟩)
      obtain ⟨l1, X1, mn1, mx1, hm1, hI1, hrB, hBs, hEq⟩ := hC.out
      obtain ⟨n, hn⟩ : ∃ n, n = P'.length := ⟨_, rfl⟩
      have hnb : n ≤ 300 := by have h1 := hI1.len; have := HN.out; rw [lsOf_len] at h1; simp at h1; omega
      have HM := Lib.hid hm1
      have HI := Lib.hid hI1
      have HrB := Lib.hid hrB
      have HEq := Lib.hid hEq
      have Hn := Lib.hid hn
      have Hnb := Lib.hid hnb
      have hni : (n : Int) ≤ 300 := by omega
      obtain ⟨b2, hb2⟩ : ∃ b, b = w2.heap.size := ⟨_, rfl⟩
      have Hb2 := Lib.hid hb2
      have H0 : Hid (RowKit.Below b2 w2 w2) := Lib.hid (RowKit.Below.refl _ _)
      rw [← hn]
      clear hC hm1 hI1 hrB hBs hEq hn hcen hb2
      go_loopw [37, 12, 13] (fun s37 s12 s13 wv => ∃ j : Nat, s37 = .int .i64 j ∧ (∃ a c, s12 = .slice a j c) ∧ (∃ a c, s13 = .slice a j c) ∧ Hid (j ≤ n ∧ RowKit.Below b2 w2 wv) ∧ Hid (wv.ownsRow b2 29 1 s12 j (mV (P'.take j))) ∧ Hid (wv.ownsRow b2 29 1 s13 j (wV (P'.take j))) ∧ Hid (Apart s12 s13))
        (fun s37 _ _ _ => n - (intOf s37).toNat)
      case atStart => exact ⟨0, rfl, ⟨_, _, rfl⟩, ⟨_, _, rfl⟩, ⟨Nat.zero_le _, H0.out⟩, World.ownsRow_nil _ _ _ _, World.ownsRow_nil _ _ _ _, fun q hq => by cases hq⟩
      case round =>
        obtain ⟨j, rfl, ⟨a9, c9, rfl⟩, ⟨a10, c10, rfl⟩, hj0, ho1, ho2, hap⟩ := hrel
        rcases Nat.lt_or_ge j n with hlt | hge
        · have hjl : j < P'.length := by rw [← Hn.out]; exact hlt
          obtain ⟨z, hz⟩ : ∃ z, z = P'[j] := ⟨_, rfl⟩
          obtain ⟨q0, q1⟩ := HrB.out.cell j hjl
          rw [← hz] at q0 q1
          have hBl := HrB.out.lt
          have hbw : RowKit.Below w2.heap.size w2 wr := by rw [← Hb2.out]; exact hj0.out.2
          have k0 : wr.cell? ⟨B, j * 2, none⟩ = some (.float .f64 z.m) := (hbw.cell (p := ⟨B, j * 2, none⟩) hBl).trans q0
          have k1 : wr.cell? ⟨B, j * 2 + 1, none⟩ = some (.float .f64 (FI z.w)) := (hbw.cell (p := ⟨B, j * 2 + 1, none⟩) hBl).trans q1
          have htk : P'.take (j + 1) = P'.take j ++ [z] := by
            rw [List.take_succ_eq_append_getElem hjl, hz]
          have Htk := Lib.hid htk
          have hji : (j : Int) < (n : Int) := by omega
          have hb2s : b2 ≤ wr.heap.size := by rw [Hb2.out]; exact hbw.size
          obtain ⟨XB, hXB⟩ : ∃ XB, XB = wr.heap.size := ⟨_, rfl⟩
          obtain ⟨zm, hzm⟩ : ∃ x, x = z.m := ⟨_, rfl⟩
          obtain ⟨zw, hzw⟩ : ∃ x, x = FI z.w := ⟨_, rfl⟩
          rw [← hzm] at k0
          rw [← hzw] at k1
          obtain ⟨wB, hwB⟩ : ∃ wB : World, wB = wr.alloc (.cells #[.float .f64 zm, .float .f64 zw] 49) := ⟨_, rfl⟩
          have hXa : wB.heap[XB]? = some (.cells #[.float .f64 zm, .float .f64 zw] 49) := by rw [hwB, hXB]; exact hp_at _ _ _ rfl
          have hB1 : RowKit.Below b2 w2 wB := by rw [hwB]; exact hj0.out.2.alloc hb2s _
          have ho1B : wB.ownsRow b2 29 1 (.slice a9 j c9) j (mV (P'.take j)) := by rw [hwB]; exact ho1.out.alloc _
          have ho2B : wB.ownsRow b2 29 1 (.slice a10 j c10) j (wV (P'.take j)) := by rw [hwB]; exact ho2.out.alloc _
          have hb2B : b2 ≤ wB.heap.size := by rw [hwB]; simp; omega
          have x0 : wB.cell? ⟨XB, 0, none⟩ = some (.float .f64 zm) := cell_of hXa rfl
          have HXa := Lib.hid hXa
          have HB1 := Lib.hid hB1
          have Ho1 := Lib.hid ho1B
          have Ho2 := Lib.hid ho2B
          have HbB := Lib.hid hb2B
          have Hzm := Lib.hid hzm
          have Hzw := Lib.hid hzw
          clear hjl hz q0 q1 hBl hbw htk hXa hB1 ho1B ho2B hb2s hb2B hzm hzw ho1 ho2
          go_upto_region 11 with fail
          rw [← hwB, ← hXB]
          clear hwB hXB k0 k1
          go_wp2_with (first
            | (at_builtin; refine wpList_append_own_at _ rfl (.tmp 41) (.tmp 44) 23 rfl b2 29 i0 (.float .f64 0) 1 8 Tryz.underlying23 hi0 hz0 hz1 hz2 rfl (by decide) _ _ _ rfl (Ho1.out.alloc _) ⟨wB.heap.size, 0, none⟩ 1 1 [.float .f64 zm] rfl rfl ?c1 ?c2 ?c3 ?c4 ?c5 ?_))
          case c1 =>
            intro i u hu
            match i, hu with
            | 0, hu => simp at hu; subst hu; simp [Addr.add]
          case c2 => intro u hu; simp at hu; subst hu; rfl
          case c3 => have := Hnb.out; unfold maxLen; omega
          case c4 => have := Hnb.out; omega
          case c5 => have := HbB.out; simp; omega
          intro v9 w3 hown9 hgrow9 hv9 hat9
          obtain ⟨O1, hO1⟩ : ∃ O1 : Obj, O1 = .cells #[.float .f64 zm] 29 := ⟨_, rfl⟩
          have hb3 : RowKit.Below b2 w2 w3 := (HB1.out.alloc HbB.out (.cells #[.float .f64 zm] 29)).grown hgrow9 (by have := HbB.out; simp; omega) fun q hq => (Ho1.out.lt q hq).1
          have ho2' := (Ho2.out.alloc (.cells #[.float .f64 zm] 29)).kept hgrow9 (Apart.far hap.out)
          have hap9 : Apart v9 (.slice a10 j c10) := hap.out.grow (Ho2.out.alloc (.cells #[.float .f64 zm] 29)) (by rw [World.size_alloc]; exact hat9)
          have hX3 : w3.heap[XB]? = some (.cells #[.float .f64 zm, .float .f64 zw] 49) := by
            have h1 := at_alloc (.cells #[.float .f64 zm] 29) HXa.out
            rw [hgrow9.block XB (lt_of_at h1) (fun e => own_ne_ty (Ho1.out.alloc (.cells #[.float .f64 zm] 29)) h1 (Ne.symm tC_F) e.symm)]
            exact h1
          have x1 : w3.cell? ⟨XB, 1, none⟩ = some (.float .f64 zw) := cell_of hX3 rfl
          obtain ⟨b9, d9, rfl⟩ : ∃ a c, v9 = .slice a (j + 1) c := own_slice hown9
          have HO9 := Lib.hid hown9
          have Hb3 := Lib.hid hb3
          have HO2 := Lib.hid ho2'
          have Hap9 := Lib.hid hap9
          clear hown9 hgrow9 hv9 hb3 ho2' hap9 hX3 x0 hat9 hO1
          go_wp2_with (first
            | (at_builtin; refine wpList_append_own_at _ rfl (.tmp 46) (.tmp 49) 23 rfl b2 29 i0 (.float .f64 0) 1 8 Tryz.underlying23 hi0 hz0 hz1 hz2 rfl (by decide) _ _ _ rfl (HO2.out.alloc _) ⟨w3.heap.size, 0, none⟩ 1 1 [.float .f64 zw] rfl rfl ?d1 ?d2 ?d3 ?d4 ?d5 ?_))
          case d1 =>
            intro i u hu
            match i, hu with
            | 0, hu => simp at hu; subst hu; simp [Addr.add]
          case d2 => intro u hu; simp at hu; subst hu; rfl
          case d3 => have := Hnb.out; unfold maxLen; omega
          case d4 => have := Hnb.out; omega
          case d5 => have := Hb3.out.size; have := Hb2.out; simp; omega
          intro v10 w4 hown10 hgrow10 hv10 hat10
          have hb4 : RowKit.Below b2 w2 w4 := (Hb3.out.alloc (by have := Hb3.out.size; have := Hb2.out; omega) (.cells #[.float .f64 zw] 29)).grown hgrow10 (by have := Hb3.out.size; have := Hb2.out; simp; omega) fun q hq => (HO2.out.lt q hq).1
          have ho9' := (HO9.out.alloc (.cells #[.float .f64 zw] 29)).kept hgrow10 (Apart.far Hap9.out.symm)
          have hap10 : Apart v10 (.slice b9 (j + 1) d9) := Hap9.out.symm.grow (HO9.out.alloc (.cells #[.float .f64 zw] 29)) (by rw [World.size_alloc]; exact hat10)
          obtain ⟨b10, d10, rfl⟩ : ∃ a c, v10 = .slice a (j + 1) c := own_slice hown10
          have HO10 := Lib.hid hown10
          have Hb4 := Lib.hid hb4
          have HO9' := Lib.hid ho9'
          have Hap10 := Lib.hid hap10
          clear hown10 hgrow10 hv10 hb4 ho9' hap10 hat10 x1
          go_wp2
          go_roundw
          case rel => exact ⟨j + 1, by go_num, ⟨_, _, rfl⟩, ⟨_, _, rfl⟩, ⟨by omega, Hb4.out⟩, Lib.hid (by rw [Htk.out]; have := HO9'.out; rw [Hzm.out] at this; unfold mV at this ⊢; rw [List.map_append]; exact this), Lib.hid (by rw [Htk.out]; have := HO10.out; rw [Hzw.out] at this; unfold wV at this ⊢; rw [List.map_append]; exact this), Lib.hid Hap10.out.symm⟩
          case measure => simp [intOf]; omega
        · obtain rfl : j = n := by have := hj0.out.1; omega
          have hbw : RowKit.Below w2.heap.size w2 wr := by rw [← Hb2.out]; exact hj0.out.2
          have hcnt := Lib.hid (count_calls HE.out (HM.out.later hbw) HI.out (Hw.out k HN.out) (Hlen.out k HN.out))
          have Hfar : Hid (∀ w5 : World, Fr [g, l1.bP, l1.bU, l1.kC] wr w5 → ∀ (v : Value) (xs : List Value), wr.ownsRow b2 29 1 v j xs → w5.ownsRow b2 29 1 v j xs) := Lib.hid fun w5 hF v xs ho => ownsRow_same ho fun q hq => by
            obtain ⟨h1, h2⟩ := ho.lt q hq
            have hm := HM.out
            have e1 := lt_of_at hm.hd
            have e2 := hm.rP.lt
            have e3 := hm.rU.lt
            have e4 : l1.kC < w2.heap.size := by
              rcases hm.rC with h | h
              · rw [h.2.2.2.2]; exact e1
              · exact h.2.1.lt
            have := Hb2.out
            exact hF.same q h2 (by simp; omega)
          clear hbw hge
          go_wp2_with (go_at_call 20; refine hcnt.out.mono ?_; rintro e w5 ⟨rfl, hF⟩)
          go_ret3
          have e : P'.take j = P' := List.take_of_length_le (by rw [← Hn.out]; exact Nat.le_refl _)
          have o1 := ho1.out
          have o2 := ho2.out
          rw [e] at o1 o2
          refine ⟨P', _, _, rfl, Lib.hid ⟨⟨⟨X1, mn1, mx1, HI.out⟩, HEq.out⟩, ?_, ?_, ?_⟩⟩
          · rw [← Hn.out]; exact ownsRow_low2 (Hfar.out w5 hF.out.1 _ _ o1) (by have := HbW.out.size; have := HM.out.bel.size; have := Hb2.out; omega)
          · rw [← Hn.out]; exact ownsRow_low2 (Hfar.out w5 hF.out.1 _ _ o2) (by have := HbW.out.size; have := HM.out.bel.size; have := Hb2.out; omega)
          · rw [← Hg.out]; exact hF.out.2
end Go.Proofs.YthcgojhfbcgaiaaGreatDoor
