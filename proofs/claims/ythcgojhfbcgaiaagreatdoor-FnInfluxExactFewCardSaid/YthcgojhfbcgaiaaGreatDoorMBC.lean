/- process: the digest is merged anew. Conditions: the digest lies in memory; its centroids' bounds; the tables. -/
import Derived.Deep.CutRange
import Derived.Deep.RegionLaw
import Derived.BigQuiet
import Derived.Test.YthcgojhfbcgaiaaGreatDoorMBB

namespace Go.Proofs.YthcgojhfbcgaiaaGreatDoor
open Go.RowKit Go.Sort Go.Proofs

theorem Tab6.below {w w' : World} {base b : Nat} {K : Nat → Nat} (h : Tab6 w b K) (hB : RowKit.Below base w w') (hb : b < base) : Tab6 w' b K := by
  obtain ⟨k0, k1, k2, k3, k4, k5, e, c0, c1, c2, c3, c4, c5, r⟩ := h
  have hc : ∀ i v, w.cell? ⟨b, i, none⟩ = some v → w'.cell? ⟨b, i, none⟩ = some v := fun i v hv => by
    rw [World.cell?_of_block (a := ⟨b, i, none⟩) (hB.block b hb)]; exact hv
  exact ⟨k0, k1, k2, k3, k4, k5, e, hc _ _ c0, hc _ _ c1, hc _ _ c2, hc _ _ c3, hc _ _ c4, hc _ _ c5, r⟩
theorem info_Cen : (Tryz.prog.info? 49).map (fun i => (i.zero, i.size, i.bytes)) = some (some (.agg #[.float .f64 0, .float .f64 0]), 2, 16) := by kernel_rfl
theorem cen_Len2 (a : Option Addr) (n c : Nat) (w : World) : Calls Tryz.prog 39 #[.slice a n c] w fun e w' => e = .returned (.int .i64 n) ∧ w' = w :=
  (cen_Len a n c w).mono fun _ _ ⟨x, y⟩ => ⟨x, y.symm⟩

/-- What process is asked of. -/
structure Ask (S : List Nat) (w : World) (base g c : Nat) (l : Lo) (P U : List Cen) (X : List Nat) (mn mx : Nat) : Prop where
  pm : PM S w w base g c l P U X (wt P) (wt U) mn mx
  c1 : 1 ≤ c
  c2 : c ≤ 1000
  el : ∀ x ∈ U ++ P, x.m ≤ FI 1000 ∧ 1 ≤ x.w
  W : wt U + wt P ≤ 2 ^ 20
  len : U.length + P.length ≤ 2 ^ 20
  t1 : Tab6 w 1 cosK
  t2 : Tab6 w 2 sinK
  b3 : 3 ≤ base

def fstM (L : List Cen) : Nat := L[0]!.m
def lstM (L : List Cen) : Nat := L[L.length - 1]!.m
def Merged (S : List Nat) (w w' : World) (base g c : Nat) (P U : List Cen) (mn mx : Nat) : Prop :=
  ∃ (l' : Lo) (y0 : Cen) (yr P' : List Cen), (y0 :: yr).Perm (U ++ P) ∧ (y0 :: yr).Pairwise (fun a b => a.m ≤ b.m) ∧ P' = mergeL (limN c (wt U + wt P)) (lim0 c (wt U + wt P)) y0.w y0 yr ∧
    PM S w w' base g c l' P' [] (cumX P') (wt U + wt P) 0 (minR mn (fstM P')) (maxR mx (lstM P'))

set_option maxHeartbeats 4000000 in
set_option maxRecDepth 100000 in
theorem process_go {S : List Nat} {w : World} {base g c : Nat} {l : Lo} {P U : List Cen} {X : List Nat} {mn mx : Nat} (h : Ask S w base g c l P U X mn mx) (hgo : 0 < U.length ∨ 2 * c < P.length) :
    Calls Tryz.prog 34 #[.pointer (some ⟨g, 0, none⟩)] w fun e w' => e = .returned (.tuple #[]) ∧ Hid (Merged S w w' base g c P U mn mx) := by
  obtain ⟨nU, hnU⟩ : ∃ nU, nU = U.length := ⟨_, rfl⟩
  obtain ⟨nP, hnP⟩ : ∃ nP, nP = P.length := ⟨_, rfl⟩
  have u1 : w.cell? ⟨g, 1, none⟩ = some (.int .i64 ((2 * c : Nat) : Int)) := cell_of h.pm.hd rfl
  have u3 : w.cell? ⟨g, 3, none⟩ = some (.slice (some ⟨l.bP, 0, none⟩) nP l.cP) := by rw [hnP]; exact cell_of h.pm.hd rfl
  have u4 : w.cell? ⟨g, 4, none⟩ = some (.slice (some ⟨l.bU, 0, none⟩) nU l.cU) := by rw [hnU]; exact cell_of h.pm.hd rfl
  have hlc := fun a n c w => Lib.hid (cen_Len2 a n c w)
  have hgo' : 0 < nU ∨ 2 * c < nP := by rw [hnU, hnP]; exact hgo
  have hnUP : (nU : Int) + nP ≤ 1048576 := by have := h.len; omega
  have H := Lib.hid h
  have HU := Lib.hid hnU
  have HP := Lib.hid hnP
  have HG := Lib.hid hgo'
  clear h hgo hnU hnP hgo'
  go_enter Tryz.func34, Tryz.ntmps34
  go_upto_region 0 with fail
  go_cut [25] from 8 (fun s25 wx => s25 = .bool true ∧ ∃ q, wx = w.drewN q)
  case first =>
    by_cases h0 : 0 < nU
    · have hd : decide (0 < nU) = true := decide_eq_true h0
      go_quiet ((go_at_call 39; refine Calls.quiet_of_same (hlc _ _ _ _).out))
      go_wp2_with fail
      go_meet
      exact ⟨rfl, _, rfl⟩
    · have hd : decide (0 < nU) = false := decide_eq_false h0
      have hd2 : decide (2 * c < nP) = true := decide_eq_true (by have := HG.out; omega)
      have hd3 : decide (2 * (c : Int) < (nP : Int)) = true := decide_eq_true (by have := HG.out; omega)
      go_quiet ((go_at_call 39; refine Calls.quiet_of_same (hlc _ _ _ _).out))
      go_wp2_with fail
      go_meet
      exact ⟨by simp, _, rfl⟩
  case rest =>
    obtain ⟨rfl, q0, rfl⟩ := hcut
    have hm := H.out.pm.drewN q0
    have v3 : (w.drewN q0).cell? ⟨g, 3, none⟩ = some (.slice (some ⟨l.bP, 0, none⟩) nP l.cP) := u3
    have v4 : (w.drewN q0).cell? ⟨g, 4, none⟩ = some (.slice (some ⟨l.bU, 0, none⟩) nU l.cU) := u4
    generalize w.drewN q0 = W1 at hm v3 v4 ⊢
    clear u1 u3 u4
    obtain ⟨i0, hi, hz0, hz1, hz2⟩ := info_parts info_Cen
    go_upto_region 1 with fail
    -- the processed are appended
    go_cut [] from 8 (fun wx => Hid (∃ l', PM S w wx base g c l' P (U ++ P) X (wt P) (wt U) mn mx))
    case first =>
      have hm1 := hm.drew
      have hown : Hid (W1.drew.ownsRow base 49 2 (.slice (some ⟨l.bU, 0, none⟩) nU l.cU) nU (flatC U)) := Lib.hid (by rw [HU.out]; exact hm1.rU.own hm1.ge.2.2.1)
      have hnews := Lib.hid hm1.rP.news
      have Hyp := Lib.hid (hm1.appU P)
      rw [← HU.out, ← HP.out] at Hyp
      have hbase := Lib.hid hm1.ge.2.2.2
      have hlen : Hid ((flatC P).length = nP * 2) := Lib.hid (by rw [flatC_len, HP.out])
      have hm0 : Hid (0 < nU + nP) := Lib.hid (by have := HG.out; omega)
      clear hm hm1
      go_wp2_with fail
      go_region_law (refine step_append_any _ rfl (.tmp 30) (.tmp 34) 46 rfl base 49 i0 _ 2 16 Tryz.underlying46 hi hz0 hz1 hz2 rfl (by decide) (.slice (some ⟨l.bU, 0, none⟩) nU l.cU) nU _ (by simp [Act.eval]) hown.out ⟨l.bP, 0, none⟩ nP l.cP (flatC P) (by simp [Act.eval]) hlen.out hnews.out (flatC_one_cell P) hm0.out (by unfold maxLen; omega) (by omega) hbase.out _ rfl ?_; intro b cap w1 ho hg hat hlt; obtain ⟨y1, y2, y3⟩ := Hyp.out b cap w1 ho hg hat; clear ho hg hat hlt)
      all_goals
        go_wp2_with fail
        go_meet
        exact Lib.hid ⟨_, y3.out⟩
    case rest =>
      obtain ⟨l2, hm2⟩ := hcut.out
      clear hm v3 v4 hcut
      have hel := H.out.el
      have hsort := Lib.hid (sortU_calls hm2 (fun x hx => (hel x hx).1) (by rw [List.length_append]; exact H.out.len))
      clear hm2
      go_upto_region 3 with (go_at_call 47; refine hsort.out.mono ?_; rintro e w2 ⟨rfl, hS⟩)
      obtain ⟨ys, hp, hsd, hm3⟩ := hS.out
      clear hsort hS
      obtain ⟨y0, yr, rfl⟩ : ∃ y0 yr, ys = y0 :: yr := by
        cases ys with
        | nil =>
          have := hp.length_eq
          rw [List.length_append, ← HU.out, ← HP.out] at this
          have := HG.out
          simp at *
          omega
        | cons a b => exact ⟨a, b, rfl⟩
      have Hp := Lib.hid hp
      have Hsd := Lib.hid hsd
      have c3 : w2.cell? ⟨g, 3, none⟩ = some (.slice (some ⟨l2.bP, 0, none⟩) P.length l2.cP) := cell_of hm3.hd rfl
      have f3 : w2.frozen? ⟨g, 3, none⟩ = false := free_of hm3.hd
      have hcl := Lib.hid (clear_calls c3 f3)
      have hm4 := Lib.hid hm3.clearP
      clear hp hsd hm3 c3 f3 hel
      go_upto_region 4 with (go_at_call 48; refine hcl.out.mono ?_; rintro e w3 ⟨rfl, rfl⟩)
      obtain ⟨W3, hW3⟩ : ∃ W3 : World, W3 = w2.setCell ⟨g, 3, none⟩ (.slice (some ⟨l2.bP, 0, none⟩) 0 l2.cP) := ⟨_, rfl⟩
      rw [← hW3] at hm4 ⊢
      clear hcl hW3
      -- the first one is appended
      go_cut [] from 8 (fun wx => Hid (∃ l', PM S w wx base g c l' [y0] (y0 :: yr) X (wt P) (wt U) mn mx))
      case first =>
        have hm5 := hm4.out
        obtain ⟨O, hO⟩ : ∃ O : Obj, O = .cells #[.float .f64 y0.m, .float .f64 (FI y0.w)] 49 := ⟨_, rfl⟩
        have hm6 := (hm5.alloc O).drew
        have hown : Hid ((W3.alloc O).drew.ownsRow base 49 2 (.slice (some ⟨l2.bP, 0, none⟩) 0 l2.cP) 0 []) := Lib.hid (hm6.rP.own hm6.ge.2.1)
        have hOa : (W3.alloc O).drew.heap[W3.heap.size]? = some O := hp_at _ _ _ rfl
        have hnews : Hid (∀ j u, [Value.float .f64 y0.m, .float .f64 (FI y0.w)][j]? = some u → (W3.alloc O).drew.cell? ((⟨W3.heap.size, 0, none⟩ : Addr).add j) = some u) := Lib.hid (by
          subst hO
          exact World.news_of_block hOa)
        have Hyp := Lib.hid (hm6.appP [y0])
        have hbase := Lib.hid hm6.ge.2.2.2
        obtain ⟨k0, k1⟩ := hm5.rU.cell 0 (by simp)
        have a3 : W3.cell? ⟨g, 3, none⟩ = some (.slice (some ⟨l2.bP, 0, none⟩) 0 l2.cP) := cell_of hm5.hd rfl
        have a4 : W3.cell? ⟨g, 4, none⟩ = some (.slice (some ⟨l2.bU, 0, none⟩) (yr.length + 1) l2.cU) := cell_of hm5.hd rfl
        have a3' : (W3.alloc O).cell? ⟨g, 3, none⟩ = some (.slice (some ⟨l2.bP, 0, none⟩) 0 l2.cP) := cell_of (hm5.alloc O).hd rfl
        have k0' : W3.cell? ⟨l2.bU, 0, none⟩ = some (.float .f64 y0.m) := k0
        have k1' : W3.cell? ⟨l2.bU, 1, none⟩ = some (.float .f64 (FI y0.w)) := k1
        have hcu : yr.length + 1 ≤ l2.cU := hm5.rU.le
        subst hO
        clear hm5 hm6 hm4 hOa k0 k1
        go_wp2_with fail
        go_region_law (refine step_append_any _ rfl (.tmp 51) (.tmp 58) 46 rfl base 49 i0 _ 2 16 Tryz.underlying46 hi hz0 hz1 hz2 rfl (by decide) (.slice (some ⟨l2.bP, 0, none⟩) 0 l2.cP) 0 _ (by simp [Act.eval]) hown.out ⟨W3.heap.size, 0, none⟩ 1 1 _ (by simp [Act.eval]) rfl hnews.out (by intro u hu; simp at hu; rcases hu with rfl | rfl <;> rfl) (by decide) (by unfold maxLen; omega) (by omega) hbase.out _ rfl ?_; intro b cap w1 ho hg hat hlt; obtain ⟨y1, y2, y3⟩ := Hyp.out b cap w1 ho hg hat; clear ho hg hat hlt)
        all_goals
          go_wp2_with fail
          go_meet
          exact Lib.hid ⟨_, y3.out⟩
      case rest =>
        obtain ⟨l3, hm5⟩ := hcut.out
        have HA := H.out
        have hWt : wt (y0 :: yr) = wt U + wt P := by rw [wt_perm Hp.out, wt_append]
        obtain ⟨W, hW⟩ : ∃ W, W = wt U + wt P := ⟨_, rfl⟩
        rw [← hW] at hWt
        have hWb : W ≤ 2 ^ 20 := by have := HA.W; omega
        have hcen : ∀ x ∈ y0 :: yr, x.m ≤ FI 1000 ∧ 1 ≤ x.w := fun x hx => HA.el x (Hp.out.mem_iff.1 hx)
        have hW1 : 1 ≤ W := by have := (hcen y0 (by simp)).2; rw [wt_cons] at hWt; omega
        have hc1 := HA.c1
        have hc2 := HA.c2
        have b6 : wc.cell? ⟨g, 6, none⟩ = some (.float .f64 (FI (wt P))) := cell_of hm5.hd rfl
        have b7 : wc.cell? ⟨g, 7, none⟩ = some (.float .f64 (FI (wt U))) := cell_of hm5.hd rfl
        have z6 : wc.frozen? ⟨g, 6, none⟩ = false := free_of hm5.hd
        have eW := ra (FI_add (wt P) (wt U) (by omega) (by omega))
        rw [show wt P + wt U = W by omega] at eW
        have HWe := Lib.hid hW
        have HWt := Lib.hid hWt
        have Hcen := Lib.hid hcen
        clear hW hWt hcen
        have hm6 := Lib.hid (hm5.setPw W).drew
        clear hm5 hcut
        go_upto_region 5 with fail
        go_still_tail 11, (by kernel_rfl)
        change wpList _ _ _ _ _ wc.drew
        go_upto_region 6 with fail
        obtain ⟨W5, hW5⟩ : ∃ W5 : World, W5 = (wc.setCell ⟨g, 6, none⟩ (.float .f64 (FI W))).drew := ⟨_, rfl⟩
        rw [← hW5] at hm6 ⊢
        have d7 : ∃ v, W5.cell? ⟨g, 7, none⟩ = some v := ⟨_, cell_of hm6.out.hd rfl⟩
        obtain ⟨v7, d7⟩ := d7
        have z7 : W5.frozen? ⟨g, 7, none⟩ = false := free_of hm6.out.hd
        have hm7 := Lib.hid (hm6.out.setUw 0)
        rw [FI_zero] at hm7
        clear hW5 b6 b7 z6 eW hm6
        go_upto_region 7 with fail
        obtain ⟨W6, hW6⟩ : ∃ W6 : World, W6 = W5.setCell ⟨g, 7, none⟩ (.float .f64 0) := ⟨_, rfl⟩
        rw [← hW6] at hm7 ⊢
        have hx := hm7.out
        obtain ⟨nr, hnr⟩ : ∃ nr, nr = yr.length := ⟨_, rfl⟩
        obtain ⟨cU3, hcU3⟩ : ∃ k, k = l3.cU := ⟨_, rfl⟩
        have d4 : W6.cell? ⟨g, 4, none⟩ = some (.slice (some ⟨l3.bU, 0, none⟩) (nr + 1) cU3) := by rw [hnr, hcU3]; exact cell_of hx.hd rfl
        have d6 : W6.cell? ⟨g, 6, none⟩ = some (.float .f64 (FI W)) := cell_of hx.hd rfl
        obtain ⟨_, k1⟩ := hx.rU.cell 0 (by simp)
        have k1' : W6.cell? ⟨l3.bU, 1, none⟩ = some (.float .f64 (FI y0.w)) := k1
        have hcu : nr + 1 ≤ cU3 := by rw [hnr, hcU3]; exact hx.rU.le
        have HNr := Lib.hid hnr
        have HcU := Lib.hid hcU3
        clear hnr hcU3
        have s1 : Tab6 W6 1 cosK := HA.t1.below hx.bel (by have := HA.b3; omega)
        have s2 : Tab6 W6 2 sinK := HA.t2.below hx.bel (by have := HA.b3; omega)
        obtain ⟨r0, i1, i2, i3⟩ := integratedQ_calls (w := W6) (g := g) (k := oneW) hc1 hc2 (oneW_mi.mono (by omega)) (cell_of hx.hd rfl) s1 s2
        have hiq : ∀ d, Hid (Calls Tryz.prog 49 #[.pointer (some ⟨g, 0, none⟩), .float .f64 oneW] (W6.drewN d) fun e w' => e = .returned (.float .f64 r0) ∧ ∃ q, w' = (W6.drewN d).drewN q) := fun d => Lib.hid (i3 d)
        obtain ⟨l1, l2'⟩ := lim0_ok (c := c) hWb i1 i2
        have eL := rm l1
        unfold oneW at hiq
        clear hW6 d7 z7 hx k1 i1 i2 i3 l1
        go_upto_region 8 with fail
        go_quiet ((go_at_call 49; refine Calls.quiet_of (hiq _).out))
        have d4' : (W6.drewN nq).cell? ⟨g, 4, none⟩ = some (.slice (some ⟨l3.bU, 0, none⟩) (nr + 1) cU3) := d4
        have hm8 : Hid (PM S w (W6.drewN nq) base g c l3 [y0] (y0 :: yr) X W 0 mn mx) := Lib.hid (hm7.out.drewN nq)
        generalize W6.drewN nq = W7 at hm8 d4' ⊢
        clear hm7 d4 d6 k1' hiq eL s1 s2
        -- the rest of the list
        go_upto_region 9 with fail
        go_cut [94, 95, 96] from 90 to 96 (fun s94 s95 s96 wx => s95 = .int .i64 (nr : Int) ∧ s96 = .int .i64 0 ∧ (∃ a oc, s94 = .slice a nr oc ∧ (nr = 0 ∨ a = some ⟨l3.bU, 2, none⟩)) ∧ wx = W7)
        case first =>
          by_cases hcu1 : cU3 = 1
          · obtain rfl : nr = 0 := by omega
            subst hcu1
            go_wp2_with fail
            go_meet
            exact ⟨rfl, rfl, ⟨_, _, rfl, .inl trivial⟩, rfl⟩
          · have hyc : ¬ cU3 = 0 := by omega
            go_wp2_with fail
            go_meet
            exact ⟨by simp, rfl, ⟨_, _, by simp; rfl, .inr rfl⟩, rfl⟩
        case rest =>
          obtain ⟨rfl, rfl, ⟨a, oc, rfl, hay⟩, rfl⟩ := hcut
          have HL0 : Hid (LpP c W y0 yr [] [] yr y0 y0.w (lim0 c W)) := Lib.hid (LpP.start Hsd.out (Hcen.out y0 (by simp)).2 l2')
          have HA' := Lib.hid HA
          clear d4' l2' HA hcu
          go_wp2_with fail
          go_loopw [2, 3, 96] (fun s2 s3 s96 wr => ∃ (D A Z : List Cen) (cur : Cen) (s lm : Nat) (lw : Lo), s2 = .float .f64 (FI s) ∧ s3 = .float .f64 lm ∧ s96 = .int .i64 A.length ∧ lw.bU = l3.bU ∧
              Hid (LpP c W y0 yr D A Z cur s lm) ∧ Hid (PM S w wr base g c lw (D ++ [cur]) (y0 :: yr) X W 0 mn mx)) (fun _ _ s96 _ => nr - (intOf s96).toNat)
          case atStart => exact ⟨[], [], yr, y0, y0.w, lim0 c W, l3, rfl, rfl, rfl, rfl, HL0, hm8⟩
          case round =>
            clear hm8
            obtain ⟨D, A, Z, cur, s, lm, lw, rfl, rfl, rfl, hbU, hL, hM⟩ := hrel
            have hAl : A.length + Z.length = nr := by rw [HNr.out, hL.out.e]; simp
            cases Z with
            | nil =>
              have hAn : A.length = nr := by simpa using hAl
              have hnl : ¬ (nr : Int) < (nr : Int) := by omega
              have hPm := hL.out.last
              have hDA := hL.out.dl
              obtain ⟨P', hPe⟩ : ∃ P', P' = D ++ [cur] := ⟨_, rfl⟩
              rw [← hPe] at hM hPm
              have hPl : P'.length = D.length + 1 := by rw [hPe]; simp
              obtain ⟨n1, hn1⟩ : ∃ n1, n1 = D.length := ⟨_, rfl⟩
              rw [← hn1] at hPl hDA
              have hnrb : nr + 1 ≤ 1048576 := by have := HA'.out.len; have := Hp.out.length_eq; have := HNr.out; simp at *; omega
              have hn1b : (n1 : Int) ≤ 1048576 := by omega
              have hwP : wt P' = W := by
                have hrow : RowC 0 (FI 1000) (y0 :: yr) := ⟨Hsd.out, fun z hz => ⟨Nat.zero_le _, (Hcen.out z hz).1, (Hcen.out z hz).2⟩⟩
                have := (mergeL_row (Nat.le_refl _) (limN c W) yr y0 (lim0 c W) y0.w hrow (by rw [HWt.out]; exact hWb)).2.1
                rw [hPm] at this
                rw [this, HWt.out]
              have hm := hM.out
              obtain ⟨fa, hfa⟩ : ∃ fa, fa = fstM P' := ⟨_, rfl⟩
              obtain ⟨la, hla⟩ : ∃ la, la = lstM P' := ⟨_, rfl⟩
              have p0 : wr.cell? ⟨lw.bP, 0, none⟩ = some (.float .f64 fa) := by
                have := (hm.rP.cell 0 (by omega)).1
                rw [hfa, fstM, getElem!_pos P' 0 (by omega)]; exact this
              have pl : wr.cell? ⟨lw.bP, n1 * 2, none⟩ = some (.float .f64 la) := by
                have := (hm.rP.cell n1 (by omega)).1
                rw [hla, lstM, show P'.length - 1 = n1 by omega, getElem!_pos P' n1 (by omega)]; exact this
              have hbPg : ¬ g = lw.bP := hm.gP
              have c3 : wr.cell? ⟨g, 3, none⟩ = some (.slice (some ⟨lw.bP, 0, none⟩) (n1 + 1) lw.cP) := by rw [← hPl]; exact cell_of hm.hd rfl
              have c8 : wr.cell? ⟨g, 8, none⟩ = some (.float .f64 mn) := cell_of hm.hd rfl
              have z8 : wr.frozen? ⟨g, 8, none⟩ = false := free_of hm.hd
              obtain ⟨W8, hW8⟩ : ∃ W8 : World, W8 = (wr.setCell ⟨g, 8, none⟩ (.float .f64 (minR mn fa))).drew := ⟨_, rfl⟩
              have hm8 : PM S w W8 base g c lw P' (y0 :: yr) X W 0 (minR mn fa) mx := by rw [hW8]; exact (hm.setMn _).drew
              have q3 : W8.cell? ⟨g, 3, none⟩ = some (.slice (some ⟨lw.bP, 0, none⟩) (n1 + 1) lw.cP) := by rw [← hPl]; exact cell_of hm8.hd rfl
              have q9 : W8.cell? ⟨g, 9, none⟩ = some (.float .f64 mx) := cell_of hm8.hd rfl
              have y9 : W8.frozen? ⟨g, 9, none⟩ = false := free_of hm8.hd
              have ql : W8.cell? ⟨lw.bP, n1 * 2, none⟩ = some (.float .f64 la) := by
                rw [hW8, World.cell?_drew, World.cell?_setCell_far _ _ _ _ (by exact hbPg)]; exact pl
              obtain ⟨W9, hW9⟩ : ∃ W9 : World, W9 = (W8.setCell ⟨g, 9, none⟩ (.float .f64 (maxR mx la))).drew := ⟨_, rfl⟩
              have hm9 : PM S w W9 base g c lw P' (y0 :: yr) X W 0 (minR mn fa) (maxR mx la) := by rw [hW9]; exact (hm8.setMx _).drew
              have hup := Lib.hid (updPM_calls hm9 (by rw [hwP]; exact hWb) (by omega))
              have hmin := fun V : World => Lib.hid ((Min_calls mn fa V).mono fun e w' ⟨u, v⟩ => (⟨u, v.symm⟩ : e = Ending.returned (.float .f64 (minR mn fa)) ∧ w' = V))
              have hmax := fun V : World => Lib.hid ((Max_calls mx la V).mono fun e w' ⟨u, v⟩ => (⟨u, v.symm⟩ : e = Ending.returned (.float .f64 (maxR mx la)) ∧ w' = V))
              have hk1 : (0 : Int) ≤ (n1 : Int) := by omega
              have hk2 : (n1 : Int) < (n1 : Int) + 1 := by omega
              have hk3 : IntKind.i64.wrap (n1 : Int) = (n1 : Int) := by rw [IntKind.wrap_i64]; omega
              have hk4 : IntKind.i64.wrap ((n1 : Int) + 1 - 1) = (n1 : Int) := by rw [IntKind.wrap_i64]; omega
              have HW8 := Lib.hid hW8
              have HW9 := Lib.hid hW9
              have HPm := Lib.hid hPm
              have Hfa := Lib.hid hfa
              have Hla := Lib.hid hla
              have hAi : (A.length : Int) = (nr : Int) := by omega
              rw [hAn]
              clear hAl hAn hPm hPe hPl hn1 hDA hnrb hwP hm hfa hla hbPg hm8 hm9 hW8 hW9 hM hL hay hAi
              go_upto_region 21 with fail
              go_still_tail 15, (by kernel_rfl)
              still_call ((hmin _).out)
              repeat still_step
              refine wpStill_nil ?_
              change wpList _ _ _ _ _ wr.drew
              go_upto_region 22 with fail
              rw [← HW8.out]
              clear p0 pl c3 c8 z8
              go_still_tail 21, (by kernel_rfl)
              still_call ((hlc _ _ _ _).out)
              repeat still_step
              still_call ((hmax _).out)
              repeat still_step
              refine wpStill_nil ?_
              change wpList _ _ _ _ _ W8.drew
              go_upto_region 23 with fail
              rw [← HW9.out]
              clear q3 q9 y9 ql
              go_upto_region 24 with (go_at_call 54; refine hup.out.mono ?_; rintro e w10 ⟨rfl, hP⟩)
              obtain ⟨l4, hb4, hm10⟩ := hP.out
              have c4 : w10.cell? ⟨g, 4, none⟩ = some (.slice (some ⟨l4.bU, 0, none⟩) (y0 :: yr).length l4.cU) := cell_of hm10.hd rfl
              have f4 : w10.frozen? ⟨g, 4, none⟩ = false := free_of hm10.hd
              have hcl := Lib.hid (clear_calls c4 f4)
              have hfin := hm10.clearU
              rw [hb4, hbU] at hfin
              have hfin := Lib.hid hfin
              clear hP hm10 c4 f4 hup
              go_wp2_with (go_at_call 48; refine hcl.out.mono ?_; rintro e w11 ⟨rfl, rfl⟩)
              go_end0
              refine ⟨rfl, Lib.hid ⟨l4, y0, yr, P', Hp.out, Hsd.out, ?_, ?_⟩⟩
              · rw [← HWe.out]; exact HPm.out.symm
              · rw [← HWe.out, ← Hfa.out, ← Hla.out]; exact hfin.out
            | cons x Z =>
              have hlt : (A.length : Int) < (nr : Int) := by simp at hAl; omega
              obtain rfl : a = some ⟨l3.bU, 2, none⟩ := by
                rcases hay with h | h
                · omega
                · exact h
              have hx : x.m ≤ FI 1000 ∧ 1 ≤ x.w := Hcen.out x (by rw [hL.out.e]; simp)
              have hsW : s + x.w ≤ W := hL.out.le HWt.out
              have hm := hM.out
              have hyl : A.length + 1 < (y0 :: yr).length := by have := HNr.out; simp; omega
              have hyx : (y0 :: yr)[A.length + 1] = x := by
                have : (y0 :: (A ++ x :: Z))[A.length + 1]'(by simp) = x := by simp
                rw [← this]; congr 1; rw [hL.out.e]
              obtain ⟨k0, k1⟩ := hm.rU.cell (A.length + 1) hyl
              rw [hyx, hbU] at k0 k1
              have k0' : wr.cell? ⟨l3.bU, 2 + A.length * 2, none⟩ = some (.float .f64 x.m) := by rw [show 2 + A.length * 2 = (A.length + 1) * 2 by omega]; exact k0
              have k1' : wr.cell? ⟨l3.bU, 2 + A.length * 2 + 1, none⟩ = some (.float .f64 (FI x.w)) := by rw [show 2 + A.length * 2 + 1 = (A.length + 1) * 2 + 1 by omega]; exact k1
              obtain ⟨XB, hXB⟩ : ∃ XB, XB = wr.heap.size := ⟨_, rfl⟩
              obtain ⟨wB, hwB⟩ : ∃ wB : World, wB = wr.alloc (.cells #[.float .f64 x.m, .float .f64 (FI x.w)] 49) := ⟨_, rfl⟩
              have hB : PM S w wB base g c lw (D ++ [cur]) (y0 :: yr) X W 0 mn mx := by rw [hwB]; exact hm.alloc _
              have hXa : wB.heap[XB]? = some (.cells #[.float .f64 x.m, .float .f64 (FI x.w)] 49) := by rw [hwB, hXB]; exact hp_at _ _ _ rfl
              have hXP : XB ≠ lw.bP := by have := hm.rP.lt; omega
              have HB := Lib.hid hB
              have HXa := Lib.hid hXa
              have e1 := ra (FI_add s x.w (by omega) (by omega))
              obtain ⟨o, ho⟩ := leF_order (x := FI (s + x.w)) (FI_in _ (by omega)) hL.out.lmB
              have hlo := leF_of ho
              have x0 : wB.cell? ⟨XB, 0, none⟩ = some (.float .f64 x.m) := cell_of hXa rfl
              have x1 : wB.cell? ⟨XB, 1, none⟩ = some (.float .f64 (FI x.w)) := cell_of hXa rfl
              have hDA := hL.out.dl
              have hnrb : nr ≤ 1048576 := by have := HA'.out.len; have := Hp.out.length_eq; have := HNr.out; simp at *; omega
              have hD1 : (D.length : Int) ≤ 1048576 := by omega
              have hlw : (D ++ [cur]).length = D.length + 1 := by simp
              clear hm hyl hyx k0 k1 hB hXa hay hAl
              go_upto_region 12 with fail
              rw [← hwB, ← hXB]
              clear hwB hXB k0' k1'
              have hcm : cur.m ≤ x.m := hL.out.o x (by simp)
              have hcw := hL.out.cw
              have c3 : wB.cell? ⟨g, 3, none⟩ = some (.slice (some ⟨lw.bP, 0, none⟩) (D.length + 1) lw.cP) := by rw [← hlw]; exact cell_of HB.out.hd rfl
              have hcase : o = .gt ∨ (o = .lt ∨ o = .eq) := by cases o <;> simp
              rcases hcase with rfl | hcase
              · -- a new centroid
                have hle : leF (FI (s + x.w)) lm = false := hlo
                have d6 : wB.cell? ⟨g, 6, none⟩ = some (.float .f64 (FI W)) := cell_of HB.out.hd rfl
                obtain ⟨q, e2, hq⟩ := part_le (s := s) (W := W) (by omega) hW1 hWb
                have f2 := rq e2
                obtain ⟨k, i1, i2, i3⟩ := integratedLocation_calls (w := wB) (g := g) hc1 hc2 hq (cell_of HB.out.hd rfl)
                have hloc : Hid (Calls Tryz.prog 51 #[.pointer (some ⟨g, 0, none⟩), .float .f64 q] wB fun e w' => e = .returned (.float .f64 k) ∧ ∃ n, w' = wB.drewN n) := Lib.hid (i3 0)
                obtain ⟨k1, e3, hk1⟩ := k1_ok hc1 hc2 i2
                have f3 := ra e3
                unfold oneW at f3
                have HLq : Hid (∀ r, iqM (FI c) k1 = some r → Mp r 901 → Ieee.double.mul (FI W) r = some (limN c W s) ∧ Mp (limN c W s) 921) := Lib.hid fun r j1 j2 => limN_ok hWb e2 i1 e3 j1 j2
                clear e2 i1 i2 i3 e3 hq
                go_upto_region 17 with (go_at_call 51; refine hloc.out.mono ?_; rintro e w5 ⟨rfl, n5, rfl⟩)
                have HV : Hid (PM S w (wB.drewN n5) base g c lw (D ++ [cur]) (y0 :: yr) X W 0 mn mx) := Lib.hid (HB.out.drewN n5)
                have x0' : (wB.drewN n5).cell? ⟨XB, 0, none⟩ = some (.float .f64 x.m) := x0
                have x1' : (wB.drewN n5).cell? ⟨XB, 1, none⟩ = some (.float .f64 (FI x.w)) := x1
                have c3' : (wB.drewN n5).cell? ⟨g, 3, none⟩ = some (.slice (some ⟨lw.bP, 0, none⟩) (D.length + 1) lw.cP) := c3
                have d6' : (wB.drewN n5).cell? ⟨g, 6, none⟩ = some (.float .f64 (FI W)) := d6
                have HXa' : Hid ((wB.drewN n5).heap[XB]? = some (.cells #[.float .f64 x.m, .float .f64 (FI x.w)] 49)) := Lib.hid HXa.out
                generalize wB.drewN n5 = V at HV x0' x1' c3' d6' HXa' ⊢
                clear HB HXa x0 x1 c3 d6 hloc f2
                obtain ⟨r, j1, j2, j3⟩ := integratedQ_calls (w := V) (g := g) (k := k1) hc1 hc2 hk1 (cell_of HV.out.hd rfl) (HA'.out.t1.below HV.out.bel (by have := HA'.out.b3; omega)) (HA'.out.t2.below HV.out.bel (by have := HA'.out.b3; omega))
                have hiq : ∀ d, Hid (Calls Tryz.prog 49 #[.pointer (some ⟨g, 0, none⟩), .float .f64 k1] (V.drewN d) fun e w' => e = .returned (.float .f64 r) ∧ ∃ q, w' = (V.drewN d).drewN q) := fun d => Lib.hid (j3 d)
                obtain ⟨m1, m2⟩ := HLq.out r j1 j2
                have f4 := rm m1
                have HL2 := Lib.hid (hL.out.fresh Hsd.out hx.2 hle m2)
                clear j1 j2 j3 m1 m2 HLq hk1
                go_quiet ((go_at_call 49; refine Calls.quiet_of (hiq _).out))
                have HV2 : Hid (PM S w (V.drewN nq) base g c lw (D ++ [cur]) (y0 :: yr) X W 0 mn mx) := Lib.hid (HV.out.drewN nq)
                have x0 : (V.drewN nq).cell? ⟨XB, 0, none⟩ = some (.float .f64 x.m) := x0'
                have x1 : (V.drewN nq).cell? ⟨XB, 1, none⟩ = some (.float .f64 (FI x.w)) := x1'
                have c3 : (V.drewN nq).cell? ⟨g, 3, none⟩ = some (.slice (some ⟨lw.bP, 0, none⟩) (D.length + 1) lw.cP) := c3'
                generalize V.drewN nq = V2 at HV2 x0 x1 c3 ⊢
                clear HV HXa' x0' x1' c3' d6' hiq f4 f3
                go_upto_region 19 with fail
                obtain ⟨O, hO⟩ : ∃ O : Obj, O = .cells #[.float .f64 x.m, .float .f64 (FI x.w)] 49 := ⟨_, rfl⟩
                have hm6 := (HV2.out.alloc O).drew
                have hown : Hid ((V2.alloc O).drew.ownsRow base 49 2 (.slice (some ⟨lw.bP, 0, none⟩) (D.length + 1) lw.cP) (D.length + 1) (flatC (D ++ [cur]))) := Lib.hid (by rw [← hlw]; exact hm6.rP.own hm6.ge.2.1)
                have hOa : (V2.alloc O).drew.heap[V2.heap.size]? = some O := hp_at _ _ _ rfl
                have hnews : Hid (∀ j u, [Value.float .f64 x.m, .float .f64 (FI x.w)][j]? = some u → (V2.alloc O).drew.cell? ((⟨V2.heap.size, 0, none⟩ : Addr).add j) = some u) := Lib.hid (by
                  subst hO
                  exact World.news_of_block hOa)
                have Hyp := Lib.hid (hm6.appP [x])
                rw [hlw] at Hyp
                have hbase := Lib.hid hm6.ge.2.2.2
                have a3' : (V2.alloc O).cell? ⟨g, 3, none⟩ = some (.slice (some ⟨lw.bP, 0, none⟩) (D.length + 1) lw.cP) := by rw [← hlw]; exact cell_of (HV2.out.alloc O).hd rfl
                have hDl := Lib.hid hD1
                subst hO
                clear hm6 hOa
                go_wp2_with fail
                go_region_law (refine step_append_any _ rfl (.tmp 146) (.tmp 148) 46 rfl base 49 i0 _ 2 16 Tryz.underlying46 hi hz0 hz1 hz2 rfl (by decide) (.slice (some ⟨lw.bP, 0, none⟩) (D.length + 1) lw.cP) (D.length + 1) _ (by simp [Act.eval]) hown.out ⟨V2.heap.size, 0, none⟩ 1 1 _ (by simp [Act.eval]) rfl hnews.out (by intro u hu; simp at hu; rcases hu with rfl | rfl <;> rfl) (by omega) (by have := hDl.out; unfold maxLen; omega) (by have := hDl.out; omega) hbase.out _ rfl ?_; intro b cap w1 ho hg hat hlt; obtain ⟨y1, y2, y3⟩ := Hyp.out b cap w1 ho hg hat; clear ho hg hat hlt)
                all_goals
                  have HM2 := y3
                  clear y1 y2 y3
                  go_wp2_with fail
                  go_roundw
                  case rel => exact ⟨D ++ [cur], A ++ [x], Z, x, s + x.w, limN c W s, { lw with bP := b, cP := cap }, rfl, rfl, by rw [List.length_append]; go_num, hbU, HL2, HM2⟩
                  case measure => simp [intOf]; omega
              · -- merged with the last one
                have hle : leF (FI (s + x.w)) lm = true := by rw [hlo]; rcases hcase with rfl | rfl <;> rfl
                have HL2 := Lib.hid (hL.out.merge Hsd.out hx.1 hx.2 (by omega) hle)
                obtain ⟨p0, p1⟩ := HB.out.rP.cell D.length (by simp)
                have hcx : (D ++ [cur])[D.length]'(by simp) = cur := by simp
                rw [hcx] at p0 p1
                have hAdd := Lib.hid (cenAdd_calls (w := wB.drew) (g := lw.bP) (o := D.length * 2) (a := cur) (b := x) p0 p1 (HB.out.rP.free _) (HB.out.rP.free _) hcm hx.1 hL.out.w1 hx.2 (by omega))
                have HM5 : ∀ n, Hid (PM S w ((((wB.alloc (.cells #[.float .f64 x.m, .float .f64 (FI x.w)] 49)).setCell ⟨lw.bP, D.length * 2 + 1, none⟩ (.float .f64 (FI (addC cur x).w))).setCell ⟨lw.bP, D.length * 2, none⟩ (.float .f64 (addC cur x).m)).drewN n) base g c lw (D ++ [addC cur x]) (y0 :: yr) X W 0 mn mx) := fun n => Lib.hid (by
                  have := ((HB.out.alloc (.cells #[.float .f64 x.m, .float .f64 (FI x.w)] 49)).turnP D.length (by simp) (addC cur x)).drewN n
                  rw [show (D ++ [cur]).set D.length (addC cur x) = D ++ [addC cur x] by simp] at this
                  exact this)
                have hk1 : (0 : Int) ≤ (D.length : Int) := by omega
                have hk2 : (D.length : Int) < (D.length : Int) + 1 := by omega
                have hk3 : IntKind.i64.wrap (D.length : Int) = (D.length : Int) := by rw [IntKind.wrap_i64]; omega
                have hk4 : IntKind.i64.wrap ((D.length : Int) + 1 - 1) = (D.length : Int) := by rw [IntKind.wrap_i64]; omega
                clear p0 p1 hcx hle hlo HB HXa
                rcases hcase with rfl | rfl
                all_goals
                  go_upto_region 15 with fail
                  go_still_tail 12, (by kernel_rfl)
                  still_call ((hlc _ _ _ _).out)
                  repeat still_step
                  refine wpStill_nil ?_
                  change wpList _ _ _ _ _ wB.drew
                  go_wp2_with (go_at_call 50; refine hAdd.out.mono ?_; rintro e w5 ⟨rfl, n5, rfl⟩)
                  go_roundw
                  case rel => exact ⟨D, A ++ [x], Z, addC cur x, s + x.w, lm, lw, rfl, rfl, by rw [List.length_append]; go_num, hbU, HL2, HM5 (1 + n5)⟩
                  case measure => simp [intOf]; omega
end Go.Proofs.YthcgojhfbcgaiaaGreatDoor
