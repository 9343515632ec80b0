/- updateCumulative. Conditions: the digest and its rows lie in memory. -/
import Derived.OwnWalk
import Derived.Test.YthcgojhfbcgaiaaGreatDoorMAU

namespace Go.Proofs.YthcgojhfbcgaiaaGreatDoor
open Go.RowKit Go.Sort Go.Proofs

/-- All old blocks but some are as they were. -/
structure Fr (S : List Nat) (w w' : World) : Prop where
  size : w.heap.size ≤ w'.heap.size
  same : ∀ b, b < w.heap.size → b ∉ S → w'.heap[b]? = w.heap[b]?
section
variable {S : List Nat} {w w' w'' : World}
theorem Fr.refl (S : List Nat) (w : World) : Fr S w w := ⟨Nat.le_refl _, fun _ _ _ => rfl⟩
theorem Fr.trans (h : Fr S w w') (h2 : Fr S w' w'') : Fr S w w'' := ⟨Nat.le_trans h.size h2.size, fun b hb hs => (h2.same b (Nat.lt_of_lt_of_le hb h.size) hs).trans (h.same b hb hs)⟩
theorem Fr.drewN (h : Fr S w w') (d : Nat) : Fr S w (w'.drewN d) := ⟨h.size, h.same⟩
theorem Fr.alloc (h : Fr S w w') (o : Obj) : Fr S w (w'.alloc o) := by
  refine ⟨by have := h.size; simp; omega, fun b hb hs => ?_⟩
  rw [← h.same b hb hs]
  obtain ⟨x, hx⟩ : ∃ x, w'.heap[b]? = some x := ⟨_, Array.getElem?_eq_getElem (Nat.lt_of_lt_of_le hb h.size)⟩
  rw [hx]; exact at_alloc _ hx
theorem Fr.set (h : Fr S w w') {a : Addr} (ha : a.block ∈ S ∨ w.heap.size ≤ a.block) (v : Value) : Fr S w (w'.setCell a v) := by
  refine ⟨by have := h.size; simp [World.setCell]; omega, fun b hb hs => ?_⟩
  rw [← h.same b hb hs]
  obtain ⟨x, hx⟩ : ∃ x, w'.heap[b]? = some x := ⟨_, Array.getElem?_eq_getElem (Nat.lt_of_lt_of_le hb h.size)⟩
  rw [hx]
  refine at_set_other v (fun e => ?_) hx
  rcases ha with ha | ha
  · exact hs (e ▸ ha)
  · omega
theorem Fr.grown {row : Option Nat} (h : Fr S w w') (hg : w'.grownBy w'' row) (hr : ∀ q, row = some q → q ∈ S ∨ w.heap.size ≤ q) : Fr S w w'' :=
  ⟨Nat.le_trans h.size hg.size, fun b hb hs => by
    rw [← h.same b hb hs]
    refine hg.block b (Nat.lt_of_lt_of_le hb h.size) fun e => ?_
    rcases hr b e.symm with h | h
    · exact hs h
    · omega⟩
theorem Fr.sub {T : List Nat} (h : Fr S w w') (h2 : Fr T w' w'') (ht : ∀ b ∈ T, b ∈ S ∨ w.heap.size ≤ b) : Fr S w w'' :=
  ⟨Nat.le_trans h.size h2.size, fun b hb hs => by
    rw [← h.same b hb hs]
    refine h2.same b (Nat.lt_of_lt_of_le hb h.size) fun e => ?_
    rcases ht b e with h | h
    · exact hs h
    · omega⟩
theorem Fr.mono {T : List Nat} (h : Fr S w w') (hs : ∀ b ∈ S, b ∈ T) : Fr T w w' := ⟨h.size, fun b hb ht => h.same b hb fun h' => ht (hs b h')⟩
end

theorem info_fl : (Tryz.prog.info? 29).map (fun i => (i.zero, i.size, i.bytes)) = some (some (.float .f64 0), 1, 8) := by kernel_rfl
theorem FI_zero : FI 0 = 0 := Nat.le_antisymm (of_decide_eq_true (by decide +kernel)) (Nat.zero_le _)
/-- The world of updateCumulative's loop. -/
structure UpW (w w' : World) (base g c bP cP bC cC kC : Nat) (P A : List Cen) (vU : Value) (pw uw mn mx : Nat) : Prop where
  hd : DgAt w' g c (.slice (some ⟨bP, 0, none⟩) P.length cP) vU (.slice (some ⟨bC, 0, none⟩) (P.length + 1) cC) pw uw mn mx
  rP : CRow w' bP cP P
  rC : FRow w' bC cC (cumPre 0 A)
  ge : base ≤ bC ∧ base ≤ g ∧ bC ≠ g ∧ bC ≠ bP ∧ bP ≠ g ∧ P.length + 1 ≤ cC ∧ (bC = kC ∨ w.heap.size ≤ bC) ∧ base ≤ w.heap.size
  bel : RowKit.Below base w w'
  fr : Fr [g, kC] w w'

set_option maxHeartbeats 4000000 in
set_option maxRecDepth 100000 in
theorem upd_calls {w : World} {base g c bP cP nC cC kC : Nat} {oC : Option Addr} {P : List Cen} {vU : Value} {pw uw mn mx : Nat}
    (hd : DgAt w g c (.slice (some ⟨bP, 0, none⟩) P.length cP) vU (.slice oC nC cC) pw uw mn mx) (hP : CRow w bP cP P)
    (hC : (oC = none ∧ cC = 0 ∧ nC = 0) ∨ (oC = some ⟨kC, 0, none⟩ ∧ FRow w kC cC [] ∧ base ≤ kC ∧ nC ≤ cC)) (hg : base ≤ g) (hw : wt P ≤ 2 ^ 20) (hl : P.length ≤ 2 ^ 20) :
    Calls Tryz.prog 54 #[.pointer (some ⟨g, 0, none⟩)] w fun e w' => e = .returned (.tuple #[]) ∧
      ∃ bC' cC', DgAt w' g c (.slice (some ⟨bP, 0, none⟩) P.length cP) vU (.slice (some ⟨bC', 0, none⟩) (P.length + 1) cC') pw uw mn mx ∧ CRow w' bP cP P ∧ FRow w' bC' cC' (cumX P) ∧
        (bC' = kC ∨ w.heap.size ≤ bC') ∧ base ≤ bC' ∧ RowKit.Below base w w' ∧ Fr [g, kC] w w' := by
  have p3 : w.cell? ⟨g, 3, none⟩ = some (.slice (some ⟨bP, 0, none⟩) P.length cP) := cell_of hd rfl
  have p5 : w.cell? ⟨g, 5, none⟩ = some (.slice oC nC cC) := cell_of hd rfl
  have z5 : w.frozen? ⟨g, 5, none⟩ = false := free_of hd
  have hlc := fun w => Lib.hid (cen_Len (some ⟨bP, 0, none⟩) P.length cP w)
  have hgs : base ≤ w.heap.size := by have := lt_of_at hd; omega
  have hbPg : bP ≠ g := by
    obtain ⟨cur, h1, _⟩ := hP.row
    exact ne_ty h1 hd (by decide)
  have hln : (P.length : Int) ≤ 1048576 := by omega
  have hcP : P.length ≤ cP := hP.le
  have hkP : ∀ (V : World) (cC' : Nat), FRow V kC cC' [] → CRow V bP cP P → kC ≠ bP := fun V cC' h1 h2 => by
    obtain ⟨cur, h1, _⟩ := h1.row
    obtain ⟨cur2, h2, _⟩ := h2.row
    exact ne_ty h1 h2 (by decide)
  have HC := Lib.hid hC
  have Hd := Lib.hid hd
  have HP := Lib.hid hP
  have HW := Lib.hid hw
  have HL := Lib.hid hl
  have Hb := Lib.hid hbPg
  have Hg := Lib.hid hg
  have Hs := Lib.hid hgs
  have Hk := Lib.hid hkP
  have hcC : (cC : Int) ≤ 9223372036854775807 := by
    rcases hC with h | h
    · omega
    · have := h.2.1.mx
      unfold maxLen at this
      omega
  have hnC : (nC : Int) ≤ (cC : Int) := by
    rcases hC with h | h <;> omega
  clear hd hP hC hw hl hcP hbPg hg hgs hkP
  obtain ⟨n, hn⟩ : ∃ n, n = P.length := ⟨_, rfl⟩
  rw [← hn] at hln hlc p3
  have Hn := Lib.hid hn
  clear hn
  go_enter Tryz.func54, Tryz.ntmps54
  go_upto_if 19 with (go_at_call 39; refine (hlc _).out.mono ?_; rintro e w1 ⟨rfl, rfl⟩)
  go_cut [2] from 3 (fun s2 wx => s2 = .int .i64 ((n : Int) + 1) ∧ Hid (∃ bC cC', UpW w wx base g c bP cP bC cC' kC P [] vU pw uw mn mx))
  case first =>
    by_cases hcap : (n : Int) + 1 ≤ (cC : Int)
    · obtain ⟨rfl, hF, hk, hnc⟩ : oC = some ⟨kC, 0, none⟩ ∧ FRow w kC cC [] ∧ base ≤ kC ∧ nC ≤ cC := by
        rcases HC.out with h | h
        · omega
        · exact h
      have hkg : kC ≠ g := by
        obtain ⟨cur, h1, _⟩ := hF.row
        exact ne_ty h1 Hd.out (by decide)
      have HV : Hid (UpW w (w.setCell ⟨g, 5, none⟩ (.slice (some ⟨kC, 0, none⟩) (n + 1) cC)) base g c bP cP kC cC kC P [] vU pw uw mn mx) := Lib.hid (by
        rw [Hn.out]
        exact ⟨at_set Hd.out 5 _, HP.out.far (by exact Ne.symm Hb.out) _, hF.far (by exact Ne.symm hkg) _, ⟨hk, Hg.out, hkg, Hk.out _ _ hF HP.out, Hb.out, by have := Hn.out; omega, .inl rfl, Hs.out⟩, (RowKit.Below.refl _ _).setCell (by exact Hg.out) _, (Fr.refl _ _).set (.inl (by simp)) _⟩)
      clear hF hk hkg
      go_wp2_with fail
      go_meet
      exact ⟨rfl, Lib.hid ⟨_, _, HV.out⟩⟩
    · obtain ⟨i0, hi, hz0, hz1, hz2⟩ := info_parts info_fl
      have hbase := Hs.out
      have Hyp : Hid (∀ w1 : World, w1.ownsRow base 29 1 (.slice (some ⟨w.heap.size, 0, none⟩) (n + 1) (n + 1)) (n + 1) (madeCells (Value.float .f64 0).cells ((n + 1) * 1)).toList → w.grownBy w1 none →
          w1.cell? ⟨g, 5, none⟩ = some (.slice oC nC cC) ∧ w1.frozen? ⟨g, 5, none⟩ = false ∧
          Hid (UpW w (w1.setCell ⟨g, 5, none⟩ (.slice (some ⟨w.heap.size, 0, none⟩) (n + 1) (n + 1))) base g c bP cP w.heap.size (n + 1) kC P [] vU pw uw mn mx)) := Lib.hid fun w1 ho hg => by
        have hd := Hd.out
        have hP := HP.out
        have hgl := lt_of_at hd
        have hpl := hP.lt
        have e1 : w1.heap[g]? = _ := (hg.block g hgl (by intro e; cases e)).trans hd
        have hF : FRow w1 w.heap.size (n + 1) [] := by
          rcases ho.2 with ⟨h, _⟩ | ⟨g', cap', cur, h1, h2, h3, h4, h5, h6, h7⟩
          · cases h
          · injection h1 with a b c
            injection a with a
            injection a with a
            subst a; subst c
            exact ⟨⟨cur, h3, by omega, by simp⟩, Nat.zero_le _, h5⟩
        refine ⟨cell_of e1 rfl, free_of e1, Lib.hid ?_⟩
        rw [Hn.out] at *
        refine ⟨at_set e1 5 _, (hP.grown hg (by intro e; cases e)).far (by exact Ne.symm Hb.out) _, hF.far (show g ≠ w.heap.size by omega) _, ⟨hbase, Hg.out, by omega, by omega, Hb.out, Nat.le_refl _, .inr (Nat.le_refl _), hbase⟩, ?_, ?_⟩
        · exact ((RowKit.Below.refl _ _).grown hg hbase (fun q hq => by cases hq)).setCell (p := ⟨g, 5, none⟩) Hg.out _
        · exact Fr.set ⟨hg.size, fun b hb _ => hg.block b hb (by intro e; cases e)⟩ (.inl (by simp)) _
      go_wp2_with (at_make; refine wpList_make_full _ rfl _ _ 23 rfl base 29 i0 (.float .f64 0) 1 Tryz.underlying23 hi hz0 hz1 _ _ _ _ (n + 1) rfl rfl (by push_cast; rfl) (by push_cast; rfl) (by rw [hz2]; omega) (by unfold maxLen; omega) hbase ?_; intro w1 ho hg; obtain ⟨y1, y2, y3⟩ := Hyp.out w1 ho hg; clear ho hg)
      go_meet
      exact ⟨rfl, Lib.hid ⟨_, _, y3.out⟩⟩
  case rest =>
    obtain ⟨rfl, hU⟩ := hcut
    obtain ⟨bC, cC', hU⟩ := hU.out
    have q3 : wc.cell? ⟨g, 3, none⟩ = some (.slice (some ⟨bP, 0, none⟩) n cP) := by
      have := cell_of hU.hd (i := 3) rfl
      rw [← Hn.out] at this; exact this
    have HU := Lib.hid hU
    clear hU p3 p5 z5 HC Hd HP
    go_wp2_with fail
    go_loopw [3, 39] (fun s3 s39 wr => ∃ (A Z : List Cen), s39 = .int .i64 A.length ∧ s3 = .float .f64 (FI (wt A)) ∧ Hid (P = A ++ Z) ∧ Hid (UpW w wr base g c bP cP bC cC' kC P A vU pw uw mn mx))
      (fun _ s39 _ => n - (intOf s39).toNat)
    case atStart => exact ⟨[], P, rfl, by rw [show wt [] = 0 from rfl, FI_zero], Lib.hid rfl, HU⟩
    case round =>
      obtain ⟨A, Z, rfl, rfl, hE, hW⟩ := hrel
      have hlc2 := fun w : World => Lib.hid ((hlc w).out.mono fun e w' ⟨a, b⟩ => (⟨a, b.symm⟩ : e = Ending.returned (.int .i64 (n : Int)) ∧ w' = w))
      have hlA : Hid (A.length + Z.length = n) := Lib.hid (by rw [Hn.out, hE.out]; simp)
      cases Z with
      | nil =>
        have hAn : A.length = n := by have := hlA.out; simp at this; exact this
        have hAP : A = P := by rw [hE.out]; simp
        subst hAP
        rw [hAn]
        have hnl : ¬ (n : Int) < (n : Int) := by omega
        have hw := hW.out
        have r3 : wr.cell? ⟨g, 3, none⟩ = some (.slice (some ⟨bP, 0, none⟩) n cP) := by
          have := cell_of hw.hd (i := 3) rfl
          rw [hAn] at this; exact this
        have r5 : wr.cell? ⟨g, 5, none⟩ = some (.slice (some ⟨bC, 0, none⟩) (n + 1) cC') := by
          have := cell_of hw.hd (i := 5) rfl
          rw [hAn] at this; exact this
        have hcl : (cumPre 0 A).length = n := by rw [cumPre_len]; exact hAn
        have hnc : n < cC' := by have := hw.ge.2.2.2.2.2.1; omega
        obtain ⟨v0, c0, f0⟩ := hw.rC.has n hnc
        have Hfin : Hid (∃ bC' cC'', DgAt (wr.setCell ⟨bC, n, none⟩ (.float .f64 (FI (wt A)))).drew g c (.slice (some ⟨bP, 0, none⟩) A.length cP) vU (.slice (some ⟨bC', 0, none⟩) (A.length + 1) cC'') pw uw mn mx ∧ CRow (wr.setCell ⟨bC, n, none⟩ (.float .f64 (FI (wt A)))).drew bP cP A ∧
            FRow (wr.setCell ⟨bC, n, none⟩ (.float .f64 (FI (wt A)))).drew bC' cC'' (cumX A) ∧ (bC' = kC ∨ w.heap.size ≤ bC') ∧ base ≤ bC' ∧ RowKit.Below base w (wr.setCell ⟨bC, n, none⟩ (.float .f64 (FI (wt A)))).drew ∧ Fr [g, kC] w (wr.setCell ⟨bC, n, none⟩ (.float .f64 (FI (wt A)))).drew) := Lib.hid (by
          obtain ⟨g1, g2, g3, g4, g5, g6, g7, g8⟩ := hw.ge
          refine ⟨bC, cC', ?_, ?_, ?_, g7, g1, ?_, ?_⟩
          · exact at_set_other (a := ⟨bC, n, none⟩) _ g3 hw.hd
          · exact (hw.rP.far (a := ⟨bC, n, none⟩) g4 _).drewN 1
          · have := hw.rC.push (by rw [hcl]; exact hnc) (FI (wt A))
            rw [hcl] at this
            exact this.drewN 1
          · exact (hw.bel.setCell (p := ⟨bC, n, none⟩) g1 _).drew
          · refine (Fr.set hw.fr (a := ⟨bC, n, none⟩) ?_ _).drewN 1
            rcases g7 with g7 | g7
            · left; rw [g7]; simp
            · exact .inr g7)
        have hni : (0 : Int) ≤ (n : Int) := by omega
        have hn1 : (n : Int) < (n : Int) + 1 := by omega
        clear hw hcl hnc hlA hE hAn
        go_upto_region 12 with fail
        go_still_tail 11, (by kernel_rfl)
        still_call ((hlc2 _).out)
        repeat still_step
        refine wpStill_nil ?_
        change wpList _ _ _ _ _ wr.drew
        go_wp2_with fail
        go_end0
        exact ⟨rfl, Hfin.out⟩
      | cons x Z =>
        have hlt : (A.length : Int) < (n : Int) := by have := hlA.out; simp at this; omega
        have hw := hW.out
        have hAl : A.length < P.length := by have := Hn.out; omega
        have hxg : P[A.length] = x := by
          have : (A ++ x :: Z)[A.length]'(by simp) = x := by simp
          rw [← this]; congr 1 <;> exact hE.out
        obtain ⟨k0, k1⟩ := hw.rP.cell A.length hAl
        rw [hxg] at k0 k1
        have hwA : wt A + x.w ≤ 2 ^ 20 := by
          have := HW.out
          rw [hE.out, wt_append, wt_cons] at this
          omega
        obtain ⟨XB, hXB⟩ : ∃ XB, XB = wr.heap.size := ⟨_, rfl⟩
        obtain ⟨wB, hwB⟩ : ∃ wB : World, wB = wr.alloc (.cells #[.float .f64 x.m, .float .f64 (FI x.w)] 49) := ⟨_, rfl⟩
        have hB : UpW w wB base g c bP cP bC cC' kC P A vU pw uw mn mx := by
          rw [hwB]
          exact ⟨at_alloc _ hw.hd, hw.rP.alloc _, hw.rC.alloc _, hw.ge, hw.bel.alloc (by have := hw.ge.2.2.2.2.2.2.2; have := hw.bel.size; omega) _, hw.fr.alloc _⟩
        have hXa : wB.heap[XB]? = some (.cells #[.float .f64 x.m, .float .f64 (FI x.w)] 49) := by rw [hwB, hXB]; exact hp_at _ _ _ rfl
        have x1 : wB.cell? ⟨XB, 1, none⟩ = some (.float .f64 (FI x.w)) := cell_of hXa rfl
        have b5 : wB.cell? ⟨g, 5, none⟩ = some (.slice (some ⟨bC, 0, none⟩) (n + 1) cC') := by
          have := cell_of hB.hd (i := 5) rfl
          rw [← Hn.out] at this; exact this
        have hcl : (cumPre 0 A).length = A.length := cumPre_len _ _
        have hnc : A.length < cC' := by have := hw.ge.2.2.2.2.2.1; omega
        obtain ⟨v0, c0, f0⟩ := hB.rC.has A.length hnc
        have e1 := rq (half_of (n := x.w) (by omega))
        have e2 := ra (cum_add (s := wt A) (c := x.w) (by omega) (by omega))
        have e3 := ra (FI_add (wt A) x.w (by omega) (by omega))
        have Hn1 : Hid (UpW w (wB.setCell ⟨bC, A.length, none⟩ (.float .f64 (FX ((16 * wt A + 8 * x.w : Nat) : Int)))) base g c bP cP bC cC' kC P (A ++ [x]) vU pw uw mn mx) := Lib.hid (by
          obtain ⟨g1, g2, g3, g4, g5, g6, g7, g8⟩ := hB.ge
          refine ⟨at_set_other (a := ⟨bC, A.length, none⟩) _ g3 hB.hd, hB.rP.far (a := ⟨bC, A.length, none⟩) g4 _, ?_, hB.ge, hB.bel.setCell (p := ⟨bC, A.length, none⟩) g1 _, ?_⟩
          · have := hB.rC.push (by rw [hcl]; exact hnc) (FX ((16 * (0 + wt A) + 8 * x.w : Nat) : Int))
            rw [cumPre_snoc]
            rw [hcl] at this
            rw [Nat.zero_add] at this ⊢
            exact this
          · refine Fr.set hB.fr (a := ⟨bC, A.length, none⟩) ?_ _
            rcases g7 with g7 | g7
            · left; rw [g7]; simp
            · exact .inr g7)
        have hE2 : Hid (P = (A ++ [x]) ++ Z) := Lib.hid (by rw [hE.out]; simp)
        have hai : (0 : Int) ≤ (A.length : Int) := by omega
        have ha1 : (A.length : Int) < (n : Int) + 1 := by omega
        have Hwt : Hid (FI (wt A + x.w) = FI (wt (A ++ [x]))) := Lib.hid (by rw [wt_append, wt_cons, wt_nil, Nat.add_zero])
        have HA := Lib.hid hAl
        generalize FX ((16 * wt A + 8 * x.w : Nat) : Int) = fx at *
        generalize FX ((8 * x.w : Nat) : Int) = fh at *
        generalize FI (wt A + x.w) = fs at *
        generalize FI (wt A) = fa at *
        clear hw hB hcl hnc hlA hAl hwA hxg hXa
        go_upto_region 8 with fail
        rw [← hwB, ← hXB]
        have HwB := Lib.hid hwB
        clear hwB hXB k0 k1
        go_wp2_with fail
        go_roundw
        case rel => exact ⟨A ++ [x], Z, by rw [List.length_append]; go_num, by rw [Hwt.out], hE2, Hn1⟩
        case measure => simp [intOf]; omega
end Go.Proofs.YthcgojhfbcgaiaaGreatDoor
