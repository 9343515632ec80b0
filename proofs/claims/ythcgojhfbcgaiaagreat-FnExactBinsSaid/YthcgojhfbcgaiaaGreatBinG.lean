/- The reservoir's compress: where there is one bin too many, two neighbours are joined. Conditions: the histogram lies in memory. -/
import Derived.Test.YthcgojhfbcgaiaaGreatBinF
namespace Go.Proofs.YthcgojhfbcgaiaaGreat
open Go.RowKit Go.Sort Go.Proofs

theorem split_two {α : Type} : ∀ (L : List α) (j : Nat), j + 1 < L.length → ∃ A x y Z, L = A ++ x :: y :: Z ∧ A.length = j
  | x :: y :: Z, 0, _ => ⟨[], x, y, Z, rfl, rfl⟩
  | x :: L, j + 1, h => by
    obtain ⟨A, a, b, Z, rfl, h2⟩ := split_two L j (by simp at h; omega)
    exact ⟨x :: A, a, b, Z, rfl, by simp [h2]⟩
  | [], _, h => by simp at h
  | [x], 0, h => by simp at h

/-- The numbers of two neighbours. -/
theorem neighbours {A Z : List PBin} {x y : PBin} {N t : Nat} (hI : Bn.Inv ((A ++ x :: y :: Z).map (·.2)) N t) : x.2.s * y.2.c < y.2.s * x.2.c := by
  have ho := hI.ord
  rw [List.map_append, List.map_cons, List.map_cons, List.pairwise_append] at ho
  exact (List.pairwise_cons.1 ho.2.1).1 _ (by simp)

section
variable {w w0 : World} {base H R most n N t : Nat} {v : Value} {PL : List PBin}
/-- The gap at a place. -/
theorem gap_at {g cap : Nat} (h : Res w base H R most n (.slice (some ⟨g, 0, none⟩) PL.length cap) PL) (hI : Bn.Inv (PL.map (·.2)) N t) (hs : Small PL) {i : Nat} (hi : i + 1 < PL.length) :
    ∃ b b' gg, w.cell? ⟨g, i, none⟩ = some (.pointer (some ⟨b, 0, none⟩)) ∧ w.cell? ⟨g, i + 1, none⟩ = some (.pointer (some ⟨b', 0, none⟩)) ∧ gg < 9218868437227405311 ∧
      ∀ j, Calls Tryz.prog 46 #[.pointer (some ⟨b, 0, none⟩), .pointer (some ⟨b', 0, none⟩)] (w.drewN j) fun e w' => e = .returned (.float .f64 gg) ∧ ∃ d, w' = (w.drewN j).drewN d := by
  obtain ⟨A, x, y, Z, rfl, hA⟩ := split_two PL i hi
  have hx := hs x (by simp)
  have hy := hs y (by simp)
  obtain ⟨gg, g1, g2⟩ := gap_spec hx.1 hx.2.1 hx.2.2 hy.1 hy.2.1 hy.2.2 (neighbours hI)
  have c1 := h.cell i (by omega)
  have c2 := h.cell (i + 1) (by omega)
  have e1 : (A ++ x :: y :: Z)[i]'(by omega) = x := by simp [← hA]
  have e2 : (A ++ x :: y :: Z)[i + 1]'(by omega) = y := by simp [← hA]
  rw [e1] at c1
  rw [e2] at c2
  exact ⟨x.1, y.1, gg, c1, c2, g2, fun j => gap_calls ((h.bins x (by simp)).drewN j) ((h.bins y (by simp)).drewN j) hx.1 hx.2.1 hx.2.2 hy.1 hy.2.1 hy.2.2 g1⟩
theorem small_of (hI : Bn.Inv (PL.map (·.2)) N t) (hN : N ≤ 255) (ht : t < 2 ^ 20) : Small PL := fun x hx => by
  have hm : x.2 ∈ PL.map (·.2) := List.mem_map_of_mem hx
  have a1 := hI.pos _ hm
  have a2 := hI.c_le hm
  have a3 := hI.s_le hm
  exact ⟨a1, by omega, by omega⟩
end

set_option maxRecDepth 100000 in
set_option maxHeartbeats 1000000 in
theorem compressB_calls {w w0 : World} {base H R most n N t : Nat} {v : Value} {PL : List PBin} (h : Res w base H R most n v PL) (hB : RowKit.Below base w0 w) (hI : Bn.Inv (PL.map (·.2)) N t) (hN : N ≤ 250) (ht : t < 2 ^ 20) (hm1 : 1 ≤ most) (hm : most ≤ 999) (hl : PL.length ≤ most + 1) :
    Calls Tryz.prog 24 #[.pointer (some ⟨R, 0, none⟩)] w fun e w' => e = .returned (.tuple #[]) ∧
      ∃ v' PL', Res w' base H R most n v' PL' ∧ RowKit.Below base w0 w' ∧ Bn.Inv (PL'.map (·.2)) N t ∧ PL'.length ≤ most ∧ (PL.length ≤ most → PL' = PL) := by
  have hsm := small_of hI (by omega) ht
  obtain ⟨oa, oc, rfl⟩ := h.slice
  obtain ⟨ln, hln⟩ : ∃ ln, ln = PL.length := ⟨_, rfl⟩
  have c0 : w.cell? ⟨R, 2, none⟩ = some (.slice oa ln oc) := by rw [hln]; exact cell_of h.hR rfl
  have c1 : w.cell? ⟨R, 1, none⟩ = some (.int .i64 most) := cell_of h.hR rfl
  have hlc := fun a b c w => Lib.hid (len_calls a b c w)
  have hmi : (most : Int) ≤ 999 := by omega
  rcases Nat.lt_or_ge most ln with hlt | hge
  · have hlm : ln = most + 1 := by omega
    obtain ⟨g, cap, cur, q1, _⟩ : ∃ g cap cur, Value.slice oa PL.length oc = .slice (some ⟨g, 0, none⟩) PL.length cap ∧ base ≤ g ∧ w.heap[g]? = some (.cells cur 42) ∧ PL.length ≤ cap ∧ cap ≤ maxLen ∧ cur.size = cap ∧ cur.toList.take PL.length = ptrs PL := by
      rcases h.row with ⟨_, h0⟩ | h0
      · rw [h0] at hln; simp at hln; omega
      · exact h0
    obtain ⟨rfl, _, rfl⟩ : oa = some ⟨g, 0, none⟩ ∧ True ∧ oc = cap := by injection q1 with a1 a2 a3; exact ⟨a1, trivial, a3⟩
    have hli : (ln : Int) = (most : Int) + 1 := by omega
    have hgt : (most : Int) < (ln : Int) := by omega
    have hgtN : most < ln := hlt
    have hli2 : (ln : Int) ≤ 1000 := by omega
    have Hh := Lib.hid h
    have HI := Lib.hid hI
    have Hsm := Lib.hid hsm
    have Hln := Lib.hid hln
    have Hlm := Lib.hid hlm
    have HB := Lib.hid hB
    have Ht := Lib.hid ht
    clear h hI hsm hln hlm hB q1 hli hm ht hN hl
    go_enter Tryz.func24, Tryz.ntmps24
    go_wp2_with fail
    refine wp_loop_rounds 2 ?_
    rw [rounds_succ]
    go_wp2_with fail
    go_quiet ((go_at_call 43; refine Calls.quiet_of_same ((hlc _ _ _ _).out.mono fun e w' ⟨he, hw⟩ => ⟨he, hw.symm⟩)))
    go_wp2_with fail
    go_loopw [2, 3, 4] (fun s2 s3 s4 wr => ∃ (i : Nat) (mi : Int) (mg : Nat), s4 = .int .i64 i ∧ s2 = .int .i64 mi ∧ s3 = .float .f64 mg ∧ Hid (i ≤ most ∧ ((i = 0 ∧ mi = -1 ∧ mg = 9218868437227405311) ∨ (0 < i ∧ 0 ≤ mi ∧ mi < i ∧ mg < 9218868437227405311))) ∧ Hid (∃ d, wr = w.drewN d))
      (fun _ _ s4 _ => most - (intOf s4).toNat)
    case atStart => exact ⟨0, -1, _, rfl, rfl, rfl, ⟨Nat.zero_le _, .inl ⟨rfl, rfl, rfl⟩⟩, ⟨_, rfl⟩⟩
    case round =>
      obtain ⟨i, mi, mg, rfl, rfl, rfl, hi, hw⟩ := hrel
      have hR : Res wr base H R most n (.slice (some ⟨g, 0, none⟩) PL.length oc) PL := by obtain ⟨d, rfl⟩ := hw.out; exact Hh.out.drewN d
      have e0 : wr.cell? ⟨R, 2, none⟩ = some (.slice (some ⟨g, 0, none⟩) ln oc) := by rw [Hln.out]; exact cell_of hR.hR rfl
      have e1 : wr.cell? ⟨R, 1, none⟩ = some (.int .i64 most) := cell_of hR.hR rfl
      have him : (i : Int) ≤ (most : Int) := by have := hi.out.1; omega
      have hlm1 : (ln : Int) - 1 = (most : Int) := by have := Hlm.out; omega
      rcases Nat.lt_or_ge i most with hlt | hge
      · obtain ⟨b, b', gg, k1, k2, k3, k4⟩ := gap_at hR HI.out Hsm.out (i := i) (by rw [← Hln.out, Hlm.out]; omega)
        have Hk3 := Lib.hid k3
        have Hk4 := Lib.hid k4
        have hilt : (i : Int) < (most : Int) := by omega
        have hil : (i : Int) < (ln : Int) := by omega
        have hil1 : (i : Int) + 1 < (ln : Int) := by omega
        obtain ⟨bb, hbb⟩ : ∃ bb, bb = (FloatKind.f64.format.order mg gg == some .gt) := ⟨_, rfl⟩
        have hbb' := hbb.symm
        have Hbb := Lib.hid hbb
        have HR := Lib.hid hR
        clear k3 k4 hR hbb hlm1
        have hlm1 : (ln : Int) - 1 = (most : Int) := by have := Hlm.out; omega
        go_wp2_with (go_at_call 43; refine (hlc _ _ _ _).out.mono ?_; rintro e w1 ⟨rfl, rfl⟩)
        have w1 : IntKind.i64.wrap ((i : Int) + 1) = (i : Int) + 1 := by rw [IntKind.wrap_i64]; omega
        have w2 : (0 : Int) ≤ (i : Int) + 1 := by omega
        have w3 : ((i : Int) + 1).toNat = i + 1 := by omega
        have w4 : (0 : Int) ≤ (i : Int) := by omega
        go_quiet ((go_at_call 46; refine Calls.quiet_of (Hk4.out _)))
        clear w1 w2 w3 w4
        cases bb with
        | true =>
          go_wp2_with fail
          go_roundw
          case rel => exact ⟨i + 1, i, gg, by go_num, rfl, rfl, ⟨by omega, .inr ⟨by omega, by omega, by omega, Hk3.out⟩⟩, by obtain ⟨d, rfl⟩ := hw.out; exact ⟨_, by rw [World.drewN_drewN]⟩⟩
          case measure => simp [intOf]; omega
        | false =>
          have hpos : Hid (0 < i ∧ 0 ≤ mi ∧ mi < i ∧ mg < 9218868437227405311) := Lib.hid (by
            rcases hi.out.2 with ⟨_, _, h3⟩ | h3
            · exfalso
              have := Hbb.out
              rw [h3] at this
              have h4 : (Ieee.double.order 9218868437227405311 gg == some .gt) = true := by
                rw [order_pos (by omega) (by have := Hk3.out; omega), Nat.compare_eq_gt.2 Hk3.out]; rfl
              have h5 : (FloatKind.f64.format.order 9218868437227405311 gg == some .gt) = true := h4
              rw [h5] at this; cases this
            · exact h3)
          go_wp2_with fail
          go_roundw
          case rel => exact ⟨i + 1, mi, mg, by go_num, rfl, rfl, ⟨by omega, .inr ⟨by omega, hpos.out.2.1, by have := hpos.out.2.2.1; omega, hpos.out.2.2.2⟩⟩, by obtain ⟨d, rfl⟩ := hw.out; exact ⟨_, by rw [World.drewN_drewN]⟩⟩
          case measure => simp [intOf]; omega
      · obtain rfl : i = most := by have := hi.out.1; omega
        obtain ⟨j, hj, hj2, hj3⟩ : ∃ j : Nat, mi = (j : Int) ∧ j < i ∧ j + 1 < PL.length := by
          rcases hi.out.2 with ⟨h1, _⟩ | ⟨h1, h2, h3, _⟩
          · omega
          · exact ⟨mi.toNat, by omega, by omega, by rw [← Hln.out, Hlm.out]; omega⟩
        subst hj
        obtain ⟨A, x, y, Z, rfl, hA⟩ := split_two PL j hj3
        have hx := Hsm.out x (by simp)
        have hy := Hsm.out y (by simp)
        have hxy : x.1 ≠ y.1 := fun e => by
          have h1 := (nod_parts hR.nod).2 y (by simp)
          exact h1 e.symm
        have hs1 : x.2.s + y.2.s < 2 ^ 20 := by
          have a := HI.out.s_le (b := x.2) (by simp)
          have a2 := Ht.out
          have a3 := HI.out.sum
          simp at a3; omega
        have hbr : RowKit.Below base w0 wr := by obtain ⟨d, rfl⟩ := hw.out; exact below_drewN HB.out d
        obtain ⟨m, hm⟩ : ∃ m, m = j + 1 := ⟨_, rfl⟩
        have hmj : (j : Int) + 1 = (m : Int) := by omega
        obtain ⟨PL', hPL'⟩ : ∃ PL' : List PBin, PL' = A ++ (x.1, (⟨x.2.c + y.2.c, x.2.s + y.2.s⟩ : Bn.B)) :: Z := ⟨_, rfl⟩
        have hll : PL'.length = i := by have := Hlm.out; rw [Hln.out] at this; simp at this; rw [hPL']; simp; omega
        have hI' : Bn.Inv (PL'.map (·.2)) N t := by
          have := HI.out
          rw [List.map_append, List.map_cons, List.map_cons] at this
          rw [hPL', List.map_append, List.map_cons]
          exact this.merge
        have hrem : Hid (Calls Tryz.prog 47 #[.pointer (some ⟨R, 2, none⟩), .int .i64 m] wr fun e w' => e = .returned (.pointer (some ⟨y.1, 0, none⟩)) ∧
            Hid (Calls Tryz.prog 45 #[.pointer (some ⟨x.1, 0, none⟩), .pointer (some ⟨y.1, 0, none⟩)] w' fun e w'' => e = .returned (.tuple #[]) ∧ ∃ oa' oc', w''.cell? ⟨R, 2, none⟩ = some (.slice oa' i oc') ∧ w''.cell? ⟨R, 1, none⟩ = some (.int .i64 i) ∧
              Hid (∃ v', Res w'' base H R i n v' PL' ∧ RowKit.Below base w0 w''))) :=
          Lib.hid ((remove_calls hR hbr (by rw [hm, hA]) (by rw [← Hln.out]; omega)).mono fun e w' ⟨h1, v', h2, h3, h4⟩ => ⟨h1, Lib.hid ((update_calls (h2.bins x (by simp)) h4 hxy hx.2.1 hx.2.2 hy.2.1 hy.2.2).mono fun e w'' ⟨h5, d', h6⟩ => by
            have e1 := (h2.setBin (x.2.c + y.2.c) (x.2.s + y.2.s)).drewN d'
            rw [← hPL', ← h6] at e1
            obtain ⟨oa', oc', rfl⟩ := e1.slice
            refine ⟨h5, oa', oc', by rw [← hll]; exact cell_of e1.hR rfl, cell_of e1.hR rfl, ⟨_, e1, ?_⟩⟩
            rw [h6]
            have hxb := h2.lt.2.2 x (by simp)
            exact below_drewN ((h3.setCell (p := ⟨x.1, 0, none⟩) hxb _).setCell (p := ⟨x.1, 1, none⟩) hxb _) d')⟩)
        have hcj : wr.cell? ⟨g, j, none⟩ = some (.pointer (some ⟨x.1, 0, none⟩)) := by
          have := hR.cell j (by omega)
          have e : (A ++ x :: y :: Z)[j]'(by omega) = x := by simp [← hA]
          rw [e] at this; exact this
        have HI' := Lib.hid hI'
        have Hll := Lib.hid hll
        have hj1 : (j : Int) < (ln : Int) := by have := Hlm.out; omega
        have hj0 : (0 : Int) ≤ (j : Int) := by omega
        have hji : (j : Int) ≤ 1000 := by omega
        clear hx hy hxy hs1 hbr hm hPL' hll hI' hA hj3 hj2 hR
        go_wp2_with (first
          | (go_at_call 43; refine (hlc _ _ _ _).out.mono ?_; rintro e w1 ⟨rfl, rfl⟩)
          | (go_at_call 47; refine hrem.out.mono ?_; rintro e w2 ⟨rfl, hU⟩)
          | (go_at_call 45; refine hU.out.mono ?_; rintro e w3 ⟨rfl, oa', oc', z1, z2, hP⟩))
        rw [rounds_succ]
        go_wp2_with fail
        go_quiet ((go_at_call 43; refine Calls.quiet_of_same ((hlc _ _ _ _).out.mono fun e w' ⟨he, hw⟩ => ⟨he, hw.symm⟩)))
        go_wp2_with fail
        go_end0
        obtain ⟨v', q1, q2⟩ := hP.out
        exact ⟨rfl, v', PL', q1.drewN _, below_drewN q2 _, HI'.out, by rw [Hll.out]; exact Nat.le_refl _, fun h => by rw [← Hln.out, Hlm.out] at h; omega⟩
  · have hnl : ¬ (most : Int) < (ln : Int) := by omega
    have hge' : (ln : Int) ≤ (most : Int) := by omega
    have Hh := Lib.hid h
    have HI := Lib.hid hI
    have HB := Lib.hid hB
    have Hln := Lib.hid hln
    have Hge := Lib.hid hge
    clear h hI hB hln hge hm hl hsm ht hN
    go_enter Tryz.func24, Tryz.ntmps24
    go_wp2_with fail
    refine wp_loop_rounds 1 ?_
    rw [rounds_succ]
    go_wp2_with fail
    go_quiet ((go_at_call 43; refine Calls.quiet_of_same ((hlc _ _ _ _).out.mono fun e w' ⟨he, hw⟩ => ⟨he, hw.symm⟩)))
    go_wp2_with fail
    go_end0
    exact ⟨rfl, _, PL, Hh.out.drewN _, below_drewN HB.out _, HI.out, by rw [← Hln.out]; exact Hge.out, fun _ => rfl⟩
end Go.Proofs.YthcgojhfbcgaiaaGreat
