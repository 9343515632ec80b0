/- Centroids, Count. Conditions: the digest lies in memory; its centroids' bounds; the tables. -/
import Derived.Test.YthcgojhfbcgaiaaGreatDoorMBE
import Derived.Test.YthcgojhfbcgaiaaGreatDoorMBP

namespace Go.Proofs.YthcgojhfbcgaiaaGreatDoor
open Go.RowKit Go.Sort Go.Proofs

theorem take_setMany (cur : Array Value) (vs : List Value) (h : vs.length ≤ cur.size) : (setMany cur 0 vs).toList.take vs.length = vs := by
  apply List.ext_getElem?
  intro t
  rcases Nat.lt_or_ge t vs.length with ht | ht
  · rw [List.getElem?_take_of_lt ht, Array.getElem?_toList]
    have hs : t < (setMany cur 0 vs).size := by rw [size_setMany]; omega
    rw [some_of_get! hs, get_setMany _ _ _ _ (by omega), if_pos (by omega), Nat.sub_zero, List.getElem!_eq_getElem?_getD, List.getElem?_eq_getElem ht]
    rfl
  · rw [List.getElem?_eq_none (by rw [List.length_take]; omega), List.getElem?_eq_none ht]
theorem PM.grownN {S : List Nat} {w0 w w1 : World} {base g c : Nat} {l : Lo} {P U : List Cen} {X : List Nat} {pw uw mn mx : Nat} (h : PM S w0 w base g c l P U X pw uw mn mx) (hg : w.grownBy w1 none) : PM S w0 w1 base g c l P U X pw uw mn mx := by
  have blk : ∀ b, b < w.heap.size → w1.heap[b]? = w.heap[b]? := fun b hb => hg.block b hb (by intro e; cases e)
  refine ⟨(blk g (lt_of_at h.hd)).trans h.hd, h.rP.block (blk _ h.rP.lt), h.rU.block (blk _ h.rU.lt), h.rCfar fun cC' hF => blk _ hF.lt, h.ne, ⟨h.ge.1, h.ge.2.1, h.ge.2.2.1, Nat.le_trans h.ge.2.2.2 hg.size⟩, h.bel.grown hg h.ge.2.2.2 (fun q hq => by cases hq), h.fr.grown hg (fun q hq => by cases hq), h.inS⟩
theorem PM.setsFar {S : List Nat} {w0 w : World} {base g c : Nat} {l : Lo} {P U : List Cen} {X : List Nat} {pw uw mn mx : Nat} (h : PM S w0 w base g c l P U X pw uw mn mx) {B : Nat} (hB : base ≤ B) (hS : B ∈ S ∨ w0.heap.size ≤ B) (h1 : B ≠ g) (h2 : B ≠ l.bP) (h3 : B ≠ l.bU) (h4 : l.oC ≠ none → B ≠ l.kC) (o : Nat) (vs : List Value) :
    PM S w0 (w.setCells B o vs) base g c l P U X pw uw mn mx := by
  refine ⟨at_sets_other h1 h.hd o vs, h.rP.fars h2 o vs, h.rU.fars h3 o vs, ?_, h.ne, ⟨h.ge.1, h.ge.2.1, h.ge.2.2.1, by rw [size_setCells]; exact h.ge.2.2.2⟩, below_sets hB vs o _ h.bel, h.fr.sub (T := [B]) ⟨by rw [size_setCells]; exact Nat.le_refl _, fun b hb hs => by
    obtain ⟨x, hx⟩ : ∃ x, w.heap[b]? = some x := ⟨_, Array.getElem?_eq_getElem hb⟩
    rw [hx]
    exact at_sets_other (fun e => hs (by simp [e])) hx o vs⟩ (fun b hb => by simp at hb; subst hb; exact hS), h.inS⟩
  rcases h.rC with hn | ⟨a, b, r⟩
  · exact .inl hn
  · refine .inr ⟨a, b.block ?_, r⟩
    obtain ⟨cur, e1, _⟩ := b.row
    rw [e1]
    exact at_sets_other (h4 (by rw [a]; simp)) e1 o vs
theorem info_CenS : (Tryz.prog.info? 49).map (·.size) = some 2 := by kernel_rfl

/-- What Centroids is asked of, and leaves. -/
def Cens (w0 w w' : World) (base g c lo hi : Nat) (L P' : List Cen) (B : Nat) : Prop :=
  ∃ (l' : Lo) (X' : List Nat) (mn' mx' : Nat), PM [] w0 w' base g c l' P' [] X' (wt P') 0 mn' mx' ∧ Inv lo hi P' [] X' mn' mx' L ∧ CRow w' B P'.length P' ∧ w.heap.size ≤ B ∧
    (L.length ≤ 8 * c → L ≠ [] → ∃ y0 yr, (y0 :: yr).Perm L ∧ (y0 :: yr).Pairwise (fun a b => a.m ≤ b.m) ∧ P' = mergeL (limN c (wt L)) (lim0 c (wt L)) y0.w y0 yr)

set_option maxHeartbeats 4000000 in
set_option maxRecDepth 100000 in
theorem centroids_calls {w0 w : World} {base g c lo hi : Nat} {L : List Cen} (E : Env w0 base c hi) (h : DS w0 w base g c lo hi L) (hW : wt L ≤ 2 ^ 20) (hl : L.length ≤ 2 ^ 20) :
    Calls Tryz.prog 19 #[.pointer (some ⟨g, 0, none⟩)] w fun e w' => ∃ (B : Nat) (P' : List Cen), e = .returned (.slice (some ⟨B, 0, none⟩) P'.length P'.length) ∧ Hid (Cens w0 w w' base g c lo hi L P' B) := by
  obtain ⟨l, P, U, X, mn, mx, hm, hI, hex⟩ := h
  have hpr := Lib.hid (processU_calls E hm hI hW hl)
  have HEx := Lib.hid hex
  have Hms : Hid (∀ w1 : World, RowKit.Below base w0 w1 → True) := Lib.hid fun _ _ => trivial
  have Hl := Lib.hid hl
  have Hsz := Lib.hid hm.bel
  obtain ⟨i0, hi0, hz0, hz1, hz2⟩ := info_parts info_Cen
  clear hm hI hex E hW hl Hms
  go_enter Tryz.func19, Tryz.ntmps19
  go_upto_region 2 with (go_at_call 34; refine hpr.out.mono ?_; rintro e w1 ⟨rfl, hP⟩)
  obtain ⟨l1, P', X', mn', mx', hm1, hI1, hfr, hEq⟩ := hP.out
  obtain ⟨n, hn⟩ : ∃ n, n = P'.length := ⟨_, rfl⟩
  have hnb : n ≤ 1048576 := by have := hI1.len; have := Hl.out; simp at *; omega
  have c3 : w1.cell? ⟨g, 3, none⟩ = some (.slice (some ⟨l1.bP, 0, none⟩) n l1.cP) := by rw [hn]; exact cell_of hm1.hd rfl
  have hgl := lt_of_at hm1.hd
  have hbase : Hid (base ≤ w1.heap.size) := Lib.hid hm1.ge.2.2.2
  obtain ⟨cs, hcs⟩ : ∃ cs, cs = flatC P' := ⟨_, rfl⟩
  have hcl : cs.length = n * 2 := by rw [hcs, flatC_len, hn]
  have Y : Hid (∀ w2 : World, w2.ownsRow base 49 2 (.slice (some ⟨w1.heap.size, 0, none⟩) n n) n (madeCells (Value.agg #[.float .f64 0, .float .f64 0]).cells (n * 2)).toList → w1.grownBy w2 none →
      w2.cell? ⟨g, 3, none⟩ = some (.slice (some ⟨l1.bP, 0, none⟩) n l1.cP) ∧
      Hid ((∀ j v, cs[j]? = some v → w2.cell? ((⟨l1.bP, 0, none⟩ : Addr).add j) = some v) ∧ (∀ j, j < cs.length → (w2.cell? ⟨w1.heap.size, 0 + j, none⟩).isSome = true) ∧ (∀ j, j < cs.length → w2.frozen? ⟨w1.heap.size, 0 + j, none⟩ = false) ∧
        Cens w0 w (w2.setCells w1.heap.size 0 cs) base g c lo hi L P' w1.heap.size)) := Lib.hid fun w2 ho hg => by
    have hm2 := hm1.grownN hg
    have hrow : ∃ cur, w2.heap[w1.heap.size]? = some (.cells cur 49) ∧ cur.size = n * 2 := by
      rcases ho.2 with ⟨h, _⟩ | ⟨g', cap', cur, h1, h2, h3, h4, h5, h6, h7⟩
      · cases h
      · injection h1 with a b d
        injection a with a
        injection a with a
        subst a; subst d
        exact ⟨cur, h3, h6⟩
    obtain ⟨cur, r1, r2⟩ := hrow
    have hne : ∀ b, b < w1.heap.size → w1.heap.size ≠ b := fun b hb => by omega
    have hkC : l1.oC ≠ none → w1.heap.size ≠ l1.kC := fun ho => by
      rcases hm1.rC with h | h
      · exact absurd h.1 ho
      · have := h.2.1.lt; omega
    refine ⟨by rw [hn]; exact cell_of hm2.hd rfl, Lib.hid ⟨?_, ?_, ?_, l1, X', mn', mx', ?_, hI1, ?_, ?_, ?_⟩⟩
    · rw [hcs]; exact hm2.rP.news
    · intro j hj
      rw [Nat.zero_add, cell_of r1 (some_of_get! (by omega))]; rfl
    · intro j _
      exact free_of r1
    · exact hm2.setsFar (by have := hm1.ge.2.2.2; exact this) (.inr hm1.fr.size) (hne _ hgl) (hne _ hm1.rP.lt) (hne _ hm1.rU.lt) hkC 0 cs
    · refine ⟨⟨setMany cur 0 cs, at_sets r1 0 cs, by rw [size_setMany, r2, hn], ?_⟩, Nat.le_refl _, by unfold maxLen; omega⟩
      rw [← hcs, show P'.length * 2 = cs.length by rw [hcl, hn]]
      exact take_setMany cur cs (by omega)
    · exact hfr.size
    · intro hc hL
      obtain ⟨a, b⟩ := HEx.out hc
      subst b
      exact hEq a hL
  have hcap : P'.length ≤ l1.cP := hm1.rP.le
  have Hn := Lib.hid hn
  have Hcs := Lib.hid hcs
  have Hcl := Lib.hid hcl
  have Hnb := Lib.hid hnb
  have hni : (n : Int) ≤ 1048576 := by omega
  clear hP hm1 hI1 hfr hEq hcs hcl hn hpr HEx hcap hgl
  go_upto_region 3 with (at_make; refine wpList_make_full _ rfl _ _ 45 rfl base 49 i0 _ 2 Tryz.underlying45 hi0 hz0 hz1 _ _ _ _ n rfl rfl rfl rfl (by rw [hz2]; omega) (by unfold maxLen; omega) hbase.out ?_; intro w2 ho hg; obtain ⟨y1, y2⟩ := Y.out w2 ho hg; clear ho hg)
  obtain ⟨z1, z2, z3, z4⟩ := y2.out
  have Z1 := Lib.hid z1
  have Z2 := Lib.hid z2
  have Z3 := Lib.hid z3
  have Z4 := Lib.hid z4
  have hn1 : Hid (cs.length = Nat.min n n * 2) := Lib.hid (by rw [Hcl.out, show Nat.min n n = n from Nat.min_self n])
  have h1c : Hid (∀ v ∈ cs, v.oneCell' = true) := Lib.hid (by rw [Hcs.out]; exact flatC_one_cell _)
  have hsz : Hid ((Tryz.prog.info? 49).map (·.size) = some 2) := Lib.hid info_CenS
  clear y2 z1 z2 z3 z4 Y c3
  go_wp2_with (refine wpList_copy_k rfl (.tmp 12) (.tmp 16) 45 46 rfl 49 2 Tryz.underlying45 hsz.out w1.heap.size 0 n n ⟨l1.bP, 0, none⟩ n l1.cP (by simp [Act.eval]) (by simp [Act.eval]) cs hn1.out Z1.out Z2.out Z3.out h1c.out ?_)
  go_ret
  exact ⟨w1.heap.size, P', by rw [← Hn.out]; rfl, Z4⟩

set_option maxHeartbeats 2000000 in
set_option maxRecDepth 100000 in
theorem count_calls {w0 w : World} {base g c lo hi : Nat} {l : Lo} {P U L : List Cen} {X : List Nat} {mn mx : Nat} (E : Env w0 base c hi) (h : PM [] w0 w base g c l P U X (wt P) (wt U) mn mx) (hI : Inv lo hi P U X mn mx L) (hW : wt L ≤ 2 ^ 20) (hl : L.length ≤ 2 ^ 20) :
    Calls Tryz.prog 20 #[.pointer (some ⟨g, 0, none⟩)] w fun e w' => e = .returned (.float .f64 (FI (wt L))) ∧ Hid (Fr [g, l.bP, l.bU, l.kC] w w' ∧ RowKit.Below base w0 w') := by
  have hpr := Lib.hid (processU_calls E h hI hW hl)
  have Hl := Lib.hid hl
  have HW := Lib.hid hW
  clear E h hI hW hl
  go_enter Tryz.func20, Tryz.ntmps20
  go_upto_region 2 with (go_at_call 34; refine hpr.out.mono ?_; rintro e w1 ⟨rfl, hP⟩)
  obtain ⟨l1, P', X', mn', mx', hm1, hI1, hfr, _⟩ := hP.out
  obtain ⟨n, hn⟩ : ∃ n, n = P'.length := ⟨_, rfl⟩
  have hnb : n ≤ 1048576 := by have := hI1.len; have := Hl.out; simp at *; omega
  have c3 : w1.cell? ⟨g, 3, none⟩ = some (.slice (some ⟨l1.bP, 0, none⟩) n l1.cP) := by rw [hn]; exact cell_of hm1.hd rfl
  have Hwt : Hid (wt P' = wt L) := Lib.hid (by have := hI1.tw; rw [wt_nil, Nat.zero_add] at this; exact this)
  have HW1 : Hid (CRow w1 l1.bP l1.cP P' ∧ Fr [g, l.bP, l.bU, l.kC] w w1 ∧ RowKit.Below base w0 w1 ∧ base ≤ w1.heap.size) := Lib.hid ⟨hm1.rP, hfr, hm1.bel, hm1.ge.2.2.2⟩
  have Hn := Lib.hid hn
  have hni : (n : Int) ≤ 1048576 := by omega
  clear hP hm1 hI1 hfr hn hpr
  go_wp2_with fail
  go_loopw [3, 13] (fun s3 s13 wr => ∃ (A Z : List Cen), s13 = .int .i64 A.length ∧ s3 = .float .f64 (FI (wt A)) ∧ Hid (P' = A ++ Z) ∧ Hid (CRow wr l1.bP l1.cP P' ∧ Fr [g, l.bP, l.bU, l.kC] w wr ∧ RowKit.Below base w0 wr ∧ base ≤ wr.heap.size))
    (fun _ s13 _ => n - (intOf s13).toNat)
  case atStart => exact ⟨[], P', rfl, by rw [show wt [] = 0 from rfl, FI_zero], Lib.hid rfl, HW1⟩
  case round =>
    obtain ⟨A, Z, rfl, rfl, hE, hM⟩ := hrel
    have hAl : A.length + Z.length = n := by rw [Hn.out, hE.out]; simp
    cases Z with
    | nil =>
      have hAn : A.length = n := by simpa using hAl
      have hAP : A = P' := by rw [hE.out]; simp
      subst hAP
      rw [hAn]
      have hnl : ¬ (n : Int) < (n : Int) := by omega
      clear hAl hAn hE
      go_wp2_with fail
      go_ret
      refine ⟨?_, Lib.hid ⟨hM.out.2.1, hM.out.2.2.1⟩⟩
      rw [← Hwt.out]; rfl
    | cons x Z =>
      have hlt : (A.length : Int) < (n : Int) := by simp at hAl; omega
      have hAlt : A.length < P'.length := by have := Hn.out; simp at hAl; omega
      have hxg : P'[A.length] = x := by
        have : (A ++ x :: Z)[A.length]'(by simp) = x := by simp
        rw [← this]; congr 1 <;> exact hE.out
      obtain ⟨k0, k1⟩ := hM.out.1.cell A.length hAlt
      rw [hxg] at k0 k1
      have hwA : wt A + x.w ≤ 2 ^ 20 := by
        have := HW.out
        rw [← Hwt.out, hE.out, wt_append, wt_cons] at this
        omega
      obtain ⟨XB, hXB⟩ : ∃ XB, XB = wr.heap.size := ⟨_, rfl⟩
      obtain ⟨wB, hwB⟩ : ∃ wB : World, wB = wr.alloc (.cells #[.float .f64 x.m, .float .f64 (FI x.w)] 49) := ⟨_, rfl⟩
      have HB : Hid (CRow wB l1.bP l1.cP P' ∧ Fr [g, l.bP, l.bU, l.kC] w wB ∧ RowKit.Below base w0 wB ∧ base ≤ wB.heap.size) := Lib.hid (by
        rw [hwB]
        exact ⟨hM.out.1.alloc _, hM.out.2.1.alloc _, hM.out.2.2.1.alloc hM.out.2.2.2 _, by have := hM.out.2.2.2; simp; omega⟩)
      have hXa : wB.heap[XB]? = some (.cells #[.float .f64 x.m, .float .f64 (FI x.w)] 49) := by rw [hwB, hXB]; exact hp_at _ _ _ rfl
      have x1 : wB.cell? ⟨XB, 1, none⟩ = some (.float .f64 (FI x.w)) := cell_of hXa rfl
      have e3 := ra (FI_add (wt A) x.w (by omega) (by omega))
      have hE2 : Hid (P' = (A ++ [x]) ++ Z) := Lib.hid (by rw [hE.out]; simp)
      have Hw2 : Hid (FI (wt A + x.w) = FI (wt (A ++ [x]))) := Lib.hid (by rw [wt_append, wt_cons, wt_nil, Nat.add_zero])
      generalize FI (wt A + x.w) = fs at *
      generalize FI (wt A) = fa at *
      clear hXa hAl hAlt hxg hwA hM hE
      go_upto_region 6 with fail
      rw [← hwB, ← hXB]
      clear hwB hXB k0 k1
      go_wp2_with fail
      go_roundw
      case rel => exact ⟨A ++ [x], Z, by rw [List.length_append]; go_num, by rw [Hw2.out], hE2, HB⟩
      case measure => simp [intOf]; omega
end Go.Proofs.YthcgojhfbcgaiaaGreatDoor
