/- process at any time; AddCentroid, Add. Conditions: the digest lies in memory; its centroids' bounds; the tables. A map of one entry with a float key: made, filled, ranged over; the slice of its targets (targetMapToSlice). No condition. -/
import Derived.Test.YthcgojhfbcgaiaaGreatDoorMBD
import Derived.Deep.QuietTactic
import Derived.BigQuiet
import Derived.Lib.Hide
import Derived.Maps.RangeWalk
import Derived.Test.YthcgojhfbcgaiaaGreatDoorMAC
import Derived.Test.YthcgojhfbcgaiaaGreatDoorProg

namespace Go.Proofs.YthcgojhfbcgaiaaGreatDoor
open Go.RowKit Go.Sort Go.Proofs

set_option maxHeartbeats 1000000 in
set_option maxRecDepth 100000 in
theorem process_no {w : World} {g c nP : Nat} {a b : Option Addr} {cP cU : Nat} (u1 : w.cell? ⟨g, 1, none⟩ = some (.int .i64 ((2 * c : Nat) : Int))) (u3 : w.cell? ⟨g, 3, none⟩ = some (.slice a nP cP)) (u4 : w.cell? ⟨g, 4, none⟩ = some (.slice b 0 cU)) (hn : nP ≤ 2 * c) :
    Calls Tryz.prog 34 #[.pointer (some ⟨g, 0, none⟩)] w fun e w' => e = .returned (.tuple #[]) ∧ ∃ q, w' = w.drewN q := by
  have hlc := fun a n c w => Lib.hid (cen_Len2 a n c w)
  have hd : decide ((0 : Nat) < 0) = false := rfl
  have hd2 : decide (2 * c < nP) = false := decide_eq_false (by omega)
  have hd3 : decide (2 * (c : Int) < (nP : Int)) = false := decide_eq_false (by omega)
  clear hn
  go_enter Tryz.func34, Tryz.ntmps34
  go_upto_region 0 with fail
  go_quiet ((go_at_call 39; refine Calls.quiet_of_same (hlc _ _ _ _).out))
  go_wp2_with fail
  go_end0
  exact ⟨rfl, _, rfl⟩

/-- What does not turn. -/
structure Env (w0 : World) (base c hi : Nat) : Prop where
  c1 : 1 ≤ c
  c2 : c ≤ 1000
  hi : hi ≤ FI 1000
  t1 : Tab6 w0 1 cosK
  t2 : Tab6 w0 2 sinK
  b3 : 3 ≤ base
theorem PM.rebase {w0 w : World} {base g c : Nat} {l : Lo} {P U : List Cen} {X : List Nat} {pw uw mn mx : Nat} (h : PM [] w0 w base g c l P U X pw uw mn mx) : PM [g, l.bP, l.bU, l.kC] w w base g c l P U X pw uw mn mx :=
  ⟨h.hd, h.rP, h.rU, h.rC, h.ne, h.ge, RowKit.Below.refl _ _, Fr.refl _ _, fun _ hb => .inl hb⟩
theorem PM.unbase {w0 w w' : World} {base g c : Nat} {l l' : Lo} {P U P2 U2 : List Cen} {X X2 : List Nat} {pw uw mn mx pw2 uw2 mn2 mx2 : Nat} (h0 : PM [] w0 w base g c l P U X pw uw mn mx) (h : PM [g, l.bP, l.bU, l.kC] w w' base g c l' P2 U2 X2 pw2 uw2 mn2 mx2) : PM [] w0 w' base g c l' P2 U2 X2 pw2 uw2 mn2 mx2 :=
  ⟨h.hd, h.rP, h.rU, h.rC, h.ne, h.ge, h0.bel.trans h.bel, h0.fr.sub h.fr (fun b hb => h0.inS b hb), fun b hb => by
    rcases h.inS b hb with h1 | h1
    · exact h0.inS b h1
    · right; have := h0.fr.size; omega⟩
/-- process, whether it merges or not. -/
theorem processU_calls {w0 w : World} {base g c lo hi : Nat} {l : Lo} {P U L : List Cen} {X : List Nat} {mn mx : Nat} (E : Env w0 base c hi) (h : PM [] w0 w base g c l P U X (wt P) (wt U) mn mx) (hI : Inv lo hi P U X mn mx L) (hW : wt L ≤ 2 ^ 20) (hl : L.length ≤ 2 ^ 20) :
    Calls Tryz.prog 34 #[.pointer (some ⟨g, 0, none⟩)] w fun e w' => e = .returned (.tuple #[]) ∧
      Hid (∃ (l' : Lo) (P' : List Cen) (X' : List Nat) (mn' mx' : Nat), PM [] w0 w' base g c l' P' [] X' (wt P') 0 mn' mx' ∧ Inv lo hi P' [] X' mn' mx' L ∧ Fr [g, l.bP, l.bU, l.kC] w w' ∧
        (P = [] → U ≠ [] → ∃ y0 yr, (y0 :: yr).Perm U ∧ (y0 :: yr).Pairwise (fun a b => a.m ≤ b.m) ∧ P' = mergeL (limN c (wt L)) (lim0 c (wt L)) y0.w y0 yr)) := by
  by_cases hgo : 0 < U.length ∨ 2 * c < P.length
  · have ha : Ask [g, l.bP, l.bU, l.kC] w base g c l P U X mn mx := ⟨h.rebase, E.c1, E.c2, fun x hx => ⟨Nat.le_trans (hI.el x hx).2.1 E.hi, (hI.el x hx).2.2⟩, by rw [hI.tw]; exact hW, Nat.le_trans hI.len hl, E.t1.below h.bel (by have := E.b3; omega), E.t2.below h.bel (by have := E.b3; omega), E.b3⟩
    refine (process_go ha hgo).mono ?_
    rintro e w' ⟨rfl, hM⟩
    obtain ⟨l', y0, yr, P', m1, m2, m3, m4⟩ := hM.out
    have hlen : P'.length ≤ (y0 :: yr).length := by rw [m3]; exact mergeL_len _ _ _ _ _
    have hI' := hI.merged E.hi hW m1 m2 m3 hlen
    rw [hI.tw] at m3 m4
    have hwt : wt P' = wt L := by have := hI'.tw; rw [wt_nil, Nat.zero_add] at this; exact this
    rw [← hwt] at m4
    refine ⟨rfl, Lib.hid ⟨l', P', _, _, _, PM.unbase h m4, hI', m4.fr, fun hP hU => ⟨y0, yr, ?_, m2, m3⟩⟩⟩
    rw [hP, List.append_nil] at m1
    exact m1
  · have hU : U = [] := List.eq_nil_of_length_eq_zero (by omega)
    subst hU
    refine (process_no (cell_of h.hd rfl) (cell_of h.hd rfl) (cell_of h.hd rfl) (by omega)).mono ?_
    rintro e w' ⟨rfl, q, rfl⟩
    exact ⟨rfl, Lib.hid ⟨l, P, X, mn, mx, h.drewN q, hI, (Fr.refl _ _).drewN q, fun _ hU => absurd rfl hU⟩⟩

/-- The digest that was given L. -/
def DS (w0 w : World) (base g c lo hi : Nat) (L : List Cen) : Prop :=
  ∃ (l : Lo) (P U : List Cen) (X : List Nat) (mn mx : Nat), PM [] w0 w base g c l P U X (wt P) (wt U) mn mx ∧ Inv lo hi P U X mn mx L ∧ (L.length ≤ 8 * c → P = [] ∧ U = L)
theorem Inv.add {lo hi : Nat} {P U L : List Cen} {X : List Nat} {mn mx : Nat} (h : Inv lo hi P U X mn mx L) {x : Cen} (hx : lo ≤ x.m ∧ x.m ≤ hi ∧ 1 ≤ x.w) : Inv lo hi P (U ++ [x]) X mn mx (L ++ [x]) := by
  refine ⟨fun y hy => ?_, ?_, h.so, ?_, h.mm, fun _ => by simp⟩
  · simp only [List.mem_append, List.mem_singleton] at hy
    rcases hy with (hy | rfl) | hy
    · exact h.el y (by simp [hy])
    · exact hx
    · exact h.el y (by simp [hy])
  · have := h.tw
    simp only [wt_append] at *
    omega
  · have := h.len
    simp at *
    omega

set_option maxHeartbeats 4000000 in
set_option maxRecDepth 100000 in
theorem addCen_calls {w0 w : World} {base g c lo hi : Nat} {L : List Cen} (E : Env w0 base c hi) (h : DS w0 w base g c lo hi L) (x : Cen) (hx : lo ≤ x.m ∧ x.m ≤ hi ∧ 1 ≤ x.w) (hW : wt (L ++ [x]) ≤ 2 ^ 20) (hl : (L ++ [x]).length ≤ 2 ^ 20) :
    Calls Tryz.prog 33 #[.pointer (some ⟨g, 0, none⟩), .agg #[.float .f64 x.m, .float .f64 (FI x.w)]] w fun e w' => e = .returned (.tuple #[]) ∧ Hid (DS w0 w' base g c lo hi (L ++ [x])) := by
  obtain ⟨l, P, U, X, mn, mx, hm, hI, hex⟩ := h
  obtain ⟨nU, hnU⟩ : ∃ nU, nU = U.length := ⟨_, rfl⟩
  obtain ⟨nP, hnP⟩ : ∃ nP, nP = P.length := ⟨_, rfl⟩
  obtain ⟨XB, hXB⟩ : ∃ XB, XB = w.heap.size := ⟨_, rfl⟩
  obtain ⟨W1, hW1⟩ : ∃ W1 : World, W1 = w.alloc (.cells #[.float .f64 x.m, .float .f64 (FI x.w)] 49) := ⟨_, rfl⟩
  have hm1 : PM [] w0 W1 base g c l P U X (wt P) (wt U) mn mx := by rw [hW1]; exact hm.alloc _
  have hXa : W1.heap[XB]? = some (.cells #[.float .f64 x.m, .float .f64 (FI x.w)] 49) := by rw [hW1, hXB]; exact hp_at _ _ _ rfl
  have hXU : XB ≠ l.bU := by have := hm.rU.lt; omega
  have hXg : g ≠ XB := by have := lt_of_at hm.hd; omega
  have b4 : W1.cell? ⟨g, 4, none⟩ = some (.slice (some ⟨l.bU, 0, none⟩) nU l.cU) := by rw [hnU]; exact cell_of hm1.hd rfl
  have x0 : W1.cell? ⟨XB, 0, none⟩ = some (.float .f64 x.m) := cell_of hXa rfl
  have x1 : W1.cell? ⟨XB, 1, none⟩ = some (.float .f64 (FI x.w)) := cell_of hXa rfl
  obtain ⟨i0, hi, hz0, hz1, hz2⟩ := info_parts info_Cen
  have hnb : nU + nP ≤ 1048575 := by have := hI.len; simp at hl; omega
  have hnUi : (nU : Int) ≤ 1048575 := by omega
  have hUx : (U ++ [x]).length = nU + 1 := by simp [hnU]
  have hwtU : wt U + x.w ≤ 2 ^ 20 := by have := hI.tw; rw [wt_append, wt_cons, wt_nil] at hW; omega
  have hI2 := hI.add hx
  have hex2 : (L ++ [x]).length ≤ 8 * c → P = [] ∧ U ++ [x] = L ++ [x] ∧ ¬ 2 * c < nP ∧ ¬ 8 * c < nU + 1 := fun hc => by
    obtain ⟨a, b⟩ := hex (by simp at hc; omega)
    refine ⟨a, by rw [b], by rw [hnP, a]; simp, ?_⟩
    rw [hnU, b]; simp at hc; omega
  have HI := Lib.hid hI2
  have HEx := Lib.hid hex2
  have HM1 := Lib.hid hm1
  have HXa := Lib.hid hXa
  have Hb := Lib.hid hnb
  have HUx := Lib.hid hUx
  have HwU := Lib.hid hwtU
  have HnP := Lib.hid hnP
  have HnU := Lib.hid hnU
  have HE := Lib.hid E
  have HW := Lib.hid hW
  have HL := Lib.hid hl
  have hlc := fun a n c w => Lib.hid (cen_Len2 a n c w)
  clear hm hI hex hm1 hXa hI2 hex2 hnb hUx hwtU hnP hnU E hW hl hx
  go_enter Tryz.func33, Tryz.ntmps33
  go_upto_region 1 with fail
  rw [← hXB, ← hW1]
  clear hXB hW1
  go_cut [] from 4 (fun wx => wx.cell? ⟨XB, 1, none⟩ = some (.float .f64 (FI x.w)) ∧ Hid (∃ l', PM [] w0 wx base g c l' P (U ++ [x]) X (wt P) (wt U) mn mx))
  case first =>
    obtain ⟨O, hO⟩ : ∃ O : Obj, O = .cells #[.float .f64 x.m, .float .f64 (FI x.w)] 49 := ⟨_, rfl⟩
    have hm6 := (HM1.out.alloc O).drew
    have hown : Hid ((W1.alloc O).drew.ownsRow base 49 2 (.slice (some ⟨l.bU, 0, none⟩) nU l.cU) nU (flatC U)) := Lib.hid (by rw [HnU.out]; exact hm6.rU.own hm6.ge.2.2.1)
    have hOa : (W1.alloc O).drew.heap[W1.heap.size]? = some O := hp_at _ _ _ rfl
    have hnews : Hid (∀ j u, [Value.float .f64 x.m, .float .f64 (FI x.w)][j]? = some u → (W1.alloc O).drew.cell? ((⟨W1.heap.size, 0, none⟩ : Addr).add j) = some u) := Lib.hid (by
      subst hO
      exact World.news_of_block hOa)
    have hXa6 : (W1.alloc O).drew.heap[XB]? = some (.cells #[.float .f64 x.m, .float .f64 (FI x.w)] 49) := at_alloc _ HXa.out
    have Hyp : Hid (∀ (b cap : Nat) (w1 : World), w1.ownsRow base 49 2 (.slice (some ⟨b, 0, none⟩) (nU + 1) cap) (nU + 1) (flatC U ++ [Value.float .f64 x.m, .float .f64 (FI x.w)]) →
        (W1.alloc O).drew.grownBy w1 (Value.slice (some ⟨l.bU, 0, none⟩) nU l.cU).ownBlock → ((Value.slice (some ⟨l.bU, 0, none⟩) nU l.cU).ownBlock = some b ∨ b = (W1.alloc O).drew.heap.size) →
        w1.frozen? ⟨g, 4, none⟩ = false ∧ w1.cell? ⟨g, 4, none⟩ = some (.slice (some ⟨l.bU, 0, none⟩) nU l.cU) ∧ w1.cell? ⟨XB, 1, none⟩ = some (.float .f64 (FI x.w)) ∧
        Hid (PM [] w0 (w1.setCell ⟨g, 4, none⟩ (.slice (some ⟨b, 0, none⟩) (nU + 1) cap)) base g c { l with bU := b, cU := cap } P (U ++ [x]) X (wt P) (wt U) mn mx)) := Lib.hid fun b cap w1 ho hg hb => by
      have e1 : w1.heap[XB]? = _ := (hg.block XB (lt_of_at hXa6) (by intro e; injection e with e; exact hXU e)).trans hXa6
      rw [HnU.out] at *
      obtain ⟨a1, a2, a3⟩ := hm6.appU [x] b cap w1 ho hg hb
      exact ⟨a1, a2, cell_of e1 rfl, a3⟩
    have hbase := Lib.hid hm6.ge.2.2.2
    have a4' : (W1.alloc O).cell? ⟨g, 4, none⟩ = some (.slice (some ⟨l.bU, 0, none⟩) nU l.cU) := by rw [HnU.out]; exact cell_of (HM1.out.alloc O).hd rfl
    have hgX2 : ¬ g = XB := hXg
    subst hO
    clear hm6 hOa hXa6 hXg
    go_wp2_with fail
    go_region_law (refine step_append_any _ rfl (.tmp 8) (.tmp 10) 46 rfl base 49 i0 _ 2 16 Tryz.underlying46 hi hz0 hz1 hz2 rfl (by decide) (.slice (some ⟨l.bU, 0, none⟩) nU l.cU) nU _ (by simp [Act.eval]) hown.out ⟨W1.heap.size, 0, none⟩ 1 1 _ (by simp [Act.eval]) rfl hnews.out (by intro u hu; simp at hu; rcases hu with rfl | rfl <;> rfl) (by omega) (by have := Hb.out; unfold maxLen; omega) (by have := Hb.out; omega) hbase.out _ rfl ?_; intro b cap w1 ho hg hat hlt; obtain ⟨y1, y2, y3, y4⟩ := Hyp.out b cap w1 ho hg hat; clear ho hg hat hlt)
    all_goals
      have y5 : (w1.setCell ⟨g, 4, none⟩ (.slice (some ⟨b, 0, none⟩) (nU + 1) cap)).cell? ⟨XB, 1, none⟩ = some (.float .f64 (FI x.w)) := by
        rw [World.cell?_setCell_far _ _ _ _ (by exact hgX2)]; exact y3
      have y6 := Lib.hid y5
      clear y5
      go_wp2_with fail
      go_meet
      exact ⟨y6.out, Lib.hid ⟨_, y4.out⟩⟩
  case rest =>
    obtain ⟨x2, hm⟩ := hcut
    obtain ⟨l2, hm2⟩ := hm.out
    have c7 : wc.cell? ⟨g, 7, none⟩ = some (.float .f64 (FI (wt U))) := cell_of hm2.hd rfl
    have z7 : wc.frozen? ⟨g, 7, none⟩ = false := free_of hm2.hd
    have eW := ra (FI_add (wt U) x.w (by have := HwU.out; omega) (by have := HwU.out; omega))
    obtain ⟨W3, hW3⟩ : ∃ W3 : World, W3 = (wc.setCell ⟨g, 7, none⟩ (.float .f64 (FI (wt U + x.w)))).drew := ⟨_, rfl⟩
    have hm3 : PM [] w0 W3 base g c l2 P (U ++ [x]) X (wt P) (wt (U ++ [x])) mn mx := by
      rw [hW3, wt_append, wt_cons, wt_nil, Nat.add_zero]
      exact (hm2.setUw _).drew
    have q1 : W3.cell? ⟨g, 1, none⟩ = some (.int .i64 ((2 * c : Nat) : Int)) := cell_of hm3.hd rfl
    have q2 : W3.cell? ⟨g, 2, none⟩ = some (.int .i64 ((8 * c : Nat) : Int)) := cell_of hm3.hd rfl
    have q3 : W3.cell? ⟨g, 3, none⟩ = some (.slice (some ⟨l2.bP, 0, none⟩) nP l2.cP) := by rw [HnP.out]; exact cell_of hm3.hd rfl
    have q4 : W3.cell? ⟨g, 4, none⟩ = some (.slice (some ⟨l2.bU, 0, none⟩) (nU + 1) l2.cU) := by rw [← HUx.out]; exact cell_of hm3.hd rfl
    have HW3 := Lib.hid hW3
    have HM3 := Lib.hid hm3
    clear hm hm2 hW3 hm3 x0 x1 b4
    go_upto_region 2 with fail
    go_still_tail 9, (by kernel_rfl)
    change wpList _ _ _ _ _ wc.drew
    go_upto_region 3 with fail
    rw [← HW3.out]
    clear c7 z7 eW x2
    obtain ⟨p, hp⟩ : ∃ p, p = 2 * c := ⟨_, rfl⟩
    obtain ⟨u, hu⟩ : ∃ u, u = 8 * c := ⟨_, rfl⟩
    rw [← hp] at q1
    rw [← hu] at q2
    have Hpu := Lib.hid (And.intro hp hu)
    clear hp hu
    go_cut [44] from 4 (fun s44 wx => s44 = .bool (decide (p < nP ∨ u < nU + 1)) ∧ ∃ q, wx = W3.drewN q)
    case first =>
      by_cases h0 : p < nP
      · have hd : decide (p < nP) = true := decide_eq_true h0
        have hD : decide (p < nP ∨ u < nU + 1) = true := decide_eq_true (.inl h0)
        go_quiet ((go_at_call 39; refine Calls.quiet_of_same (hlc _ _ _ _).out))
        go_wp2_with fail
        go_meet
        exact ⟨by rw [hD], _, rfl⟩
      · have hd : decide (p < nP) = false := decide_eq_false h0
        by_cases h1 : u < nU + 1
        · have hd2 : decide (u < nU + 1) = true := decide_eq_true h1
          have hd3 : decide ((u : Int) < (nU : Int) + 1) = true := decide_eq_true (by omega)
          have hD : decide (p < nP ∨ u < nU + 1) = true := decide_eq_true (.inr h1)
          go_quiet ((go_at_call 39; refine Calls.quiet_of_same (hlc _ _ _ _).out))
          go_wp2_with fail
          go_meet
          exact ⟨by simp [hD], _, rfl⟩
        · have hd2 : decide (u < nU + 1) = false := decide_eq_false h1
          have hd3 : decide ((u : Int) < (nU : Int) + 1) = false := decide_eq_false (by omega)
          have hD : decide (p < nP ∨ u < nU + 1) = false := decide_eq_false (by omega)
          go_quiet ((go_at_call 39; refine Calls.quiet_of_same (hlc _ _ _ _).out))
          go_wp2_with fail
          go_meet
          exact ⟨by simp [hD], _, rfl⟩
    case rest =>
      obtain ⟨rfl, q, rfl⟩ := hcut
      have HM4 : Hid (PM [] w0 (W3.drewN q) base g c l2 P (U ++ [x]) X (wt P) (wt (U ++ [x])) mn mx) := Lib.hid (HM3.out.drewN q)
      clear q1 q2 q3 q4
      by_cases hg : p < nP ∨ u < nU + 1
      · rw [decide_eq_true hg]
        have hpr := Lib.hid (processU_calls HE.out HM4.out HI.out HW.out HL.out)
        go_wp2_with (go_at_call 34; refine hpr.out.mono ?_; rintro e w9 ⟨rfl, hP⟩)
        go_end0
        refine ⟨rfl, Lib.hid ?_⟩
        obtain ⟨l', P', X', mn', mx', r1, r2, _, _⟩ := hP.out
        refine ⟨l', P', [], X', mn', mx', r1, r2, fun hc => ?_⟩
        have := HEx.out hc
        have := Hpu.out
        omega
      · rw [decide_eq_false hg]
        go_wp2_with fail
        go_end0
        exact ⟨rfl, Lib.hid ⟨l2, P, U ++ [x], X, mn, mx, HM4.out, HI.out, fun hc => ⟨(HEx.out hc).1, (HEx.out hc).2.1⟩⟩⟩

set_option maxRecDepth 100000 in
theorem add_calls {w0 w : World} {base g c lo hi : Nat} {L : List Cen} (E : Env w0 base c hi) (h : DS w0 w base g c lo hi L) (x : Cen) (hx : lo ≤ x.m ∧ x.m ≤ hi ∧ 1 ≤ x.w) (hW : wt (L ++ [x]) ≤ 2 ^ 20) (hl : (L ++ [x]).length ≤ 2 ^ 20) :
    Calls Tryz.prog 18 #[.pointer (some ⟨g, 0, none⟩), .float .f64 x.m, .float .f64 (FI x.w)] w fun e w' => e = .returned (.tuple #[]) ∧ Hid (DS w0 w' base g c lo hi (L ++ [x])) := by
  have hI := FI_in 1000 (by omega)
  have hn := Lib.hid (IsNaN_calls (x := x.m) (Mg.pos (by have := E.hi; omega)) w)
  have hc := Lib.hid (addCen_calls E h x hx hW hl)
  generalize x.m = xm at *
  generalize FI x.w = xw at *
  clear E h hx hW hl hI
  go_enter Tryz.func18, Tryz.ntmps18
  go_wp2_with (first
    | (go_at_call 32; refine hn.out.mono ?_; rintro e w1 ⟨rfl, rfl⟩)
    | (go_at_call 33; refine hc.out.mono ?_; rintro e w2 ⟨rfl, hD⟩))
  go_end0
  exact ⟨rfl, hD⟩
end Go.Proofs.YthcgojhfbcgaiaaGreatDoor

namespace Go.Proofs.YthcgojhfbcgaiaaGreatDoor
open Go.RowKit Go.ChangeMaps
section
variable {P : Program} {w : World} {M : Nat} {es : Array MapEntry} {c : Nat}
theorem run_len_map (t ty k e : TypeId) (ht : P.underlying t = some (.map k e)) (h : w.heap[M]? = some (.map es c)) :
    (Builtin.len_ #[t] ty #[.map (some M)]).run P w = .ok (.int .i64 es.size) w := by
  simp [Builtin.len_, run_underlying ht, MapKept.run_getObj_map h, goInt, Result.andThen]
theorem run_range_map (t k e : TypeId) (ht : P.underlying t = some (.map k e)) (h : w.heap[M]? = some (.map es c)) :
    (Instr.range t (.map (some M))).run P w = .ok (.pointer (some ⟨w.heap.size, 0, none⟩)) (w.alloc (.mapIter (some M) c #[] c)) := by
  simp [Instr.range, run_underlying ht, MapKept.run_getObj_map h, Result.andThen]
theorem run_insert_first (t k e : TypeId) (f : FloatKind) (ht : P.underlying t = some (.map k e)) (hk : P.underlying k = some (.float f)) (q : Nat) (v : Value) (h : w.heap[M]? = some (.map #[] 0)) :
    (Instr.mapUpdate t (.map (some M)) (.float f q) v).run P w = .ok () (setBlock w M (.map #[⟨.float f q, v, 0⟩] 1)) := by
  have hc : ∀ w, (Instr.checkKey false 10000 k (.float f q)).run P w = .ok () w := fun w => by
    show (Instr.checkKey false (9999 + 1) k _).run P w = _
    rw [Instr.checkKey]; simp [run_underlying hk]
  simp [Instr.mapUpdate, run_underlying ht, run_underlying hk, MapKept.run_getObj_map h, hc, Instr.findKey, Instr.findNow, MapKept.run_setObj_map _ h, Result.andThen, setBlock]
/-- The step: the one entry; then it is over. -/
theorem run_next_first (I : Nat) (ty : TypeId) (kv v : Value) (hI : w.heap[I]? = some (.mapIter (some M) 1 #[] 1)) (h : w.heap[M]? = some (.map #[⟨kv, v, 0⟩] 1)) :
    (Instr.next (.pointer (some ⟨I, 0, none⟩)) false ty).run P w = .ok (.tuple #[.bool true, kv, v]) (setBlock w I (.mapIter (some M) 1 #[0] 1)) := by
  simp [Instr.next, getObj, setObj, Sem.run_bind, Sem.run, hI, h, Result.andThen, choose, Question.forced, setBlock]
theorem run_next_over (I : Nat) (ty : TypeId) (kv v : Value) (hI : w.heap[I]? = some (.mapIter (some M) 1 #[0] 1)) (h : w.heap[M]? = some (.map #[⟨kv, v, 0⟩] 1)) :
    (Instr.next (.pointer (some ⟨I, 0, none⟩)) false ty).run P w = .ok (.tuple #[.bool false]) w := by
  simp [Instr.next, getObj, Sem.run_bind, Sem.run, hI, h, Result.andThen, choose, Question.forced]
theorem run_entry_one (I : Nat) (kv v : Value) (hI : w.heap[I]? = some (.mapIter (some M) 1 #[0] 1)) (h : w.heap[M]? = some (.map #[⟨kv, v, 0⟩] 1)) :
    (Instr.entry (.pointer (some ⟨I, 0, none⟩))).run P w = .ok (.tuple #[kv, v]) w := by
  simp [Instr.entry, getObj, Sem.run_bind, Sem.run, hI, h, Result.andThen]
end
end Go.Proofs.YthcgojhfbcgaiaaGreatDoor
