/- The histogram's remove: one bin taken out of the slice. Conditions: the histogram lies in memory. -/
import Derived.Test.YthcgojhfbcgaiaaGreatBinD
import Derived.Test.YthcgojhfbcgaiaaGreatMem
namespace Go.Proofs.YthcgojhfbcgaiaaGreat
open Go.RowKit Go.Sort Go.Proofs

theorem ptrs_len (PL : List PBin) : (ptrs PL).length = PL.length := by simp [ptrs]
theorem ptrs_append (A B : List PBin) : ptrs (A ++ B) = ptrs A ++ ptrs B := by simp [ptrs]
section
variable {w : World} {base H R most n g cap : Nat} {PL : List PBin}
theorem Res.cell (h : Res w base H R most n (.slice (some ⟨g, 0, none⟩) PL.length cap) PL) (i : Nat) (hi : i < PL.length) : w.cell? ⟨g, i, none⟩ = some (.pointer (some ⟨PL[i].1, 0, none⟩)) := by
  rcases h.row with ⟨h4, h5⟩ | ⟨g', cap', cur, h4, h5, h6, h7, h8, h9, h10⟩
  · subst h5; simp at hi
  · obtain ⟨rfl, _⟩ : g = g' ∧ True := by injection h4 with a1 a2 a3; injection a1 with a1; injection a1 with a1; exact ⟨a1, trivial⟩
    refine cell_of h6 ?_
    have := congrArg (fun l => l[i]?) h10
    simp only [List.getElem?_take_of_lt hi, ptrs, List.getElem?_map, List.getElem?_eq_getElem hi, Option.map_some, Array.getElem?_toList] at this
    exact this
end
/-- The row's first cells, one taken out. -/
theorem take_removed {cur : Array Value} {A Z : List PBin} {x y : PBin} (hs : (A ++ x :: y :: Z).length ≤ cur.size) (h : cur.toList.take (A ++ x :: y :: Z).length = ptrs (A ++ x :: y :: Z)) :
    (setMany cur (A.length + 1) (ptrs Z)).toList.take (A ++ x :: Z).length = ptrs (A ++ x :: Z) := by
  simp at hs
  apply List.ext_getElem?
  intro t
  have hl : (ptrs (A ++ x :: Z)).length = A.length + 1 + Z.length := by simp [ptrs]; omega
  rcases Nat.lt_or_ge t (A.length + 1 + Z.length) with ht | ht
  · rw [List.getElem?_take_of_lt (by simp; omega), Array.getElem?_toList, some_of_get! (by rw [size_setMany]; omega), get_setMany _ _ _ _ (by omega), ptrs_len]
    have hg : ∀ q, q < A.length + 2 + Z.length → cur[q]! = ((ptrs (A ++ x :: y :: Z))[q]?).getD default := fun q hq => by
      rw [← h, List.getElem?_take_of_lt (by simp; omega), Array.getElem?_toList, some_of_get! (by omega)]; rfl
    by_cases h1 : A.length + 1 ≤ t
    · rw [if_pos ⟨h1, by omega⟩]
      obtain ⟨q, rfl⟩ : ∃ q, t = A.length + 1 + q := ⟨t - (A.length + 1), by omega⟩
      rw [show A.length + 1 + q - (A.length + 1) = q by omega]
      rw [show ptrs (A ++ x :: Z) = ptrs (A ++ [x]) ++ ptrs Z by rw [← ptrs_append]; simp, List.getElem?_append_right (by rw [ptrs_len]; simp), ptrs_len]
      rw [show A.length + 1 + q - (A ++ [x]).length = q by simp]
      rw [getElem!_pos _ q (by rw [ptrs_len]; omega), List.getElem?_eq_getElem (by rw [ptrs_len]; omega)]
    · rw [if_neg (by omega), hg t (by omega)]
      rw [show ptrs (A ++ x :: y :: Z) = ptrs (A ++ [x]) ++ ptrs (y :: Z) by rw [← ptrs_append]; simp, show ptrs (A ++ x :: Z) = ptrs (A ++ [x]) ++ ptrs Z by rw [← ptrs_append]; simp]
      have h2 : t < (ptrs (A ++ [x])).length := by rw [ptrs_len]; simp; omega
      rw [List.getElem?_append_left h2, List.getElem?_append_left h2, List.getElem?_eq_getElem h2]; rfl
  · rw [List.getElem?_eq_none (by simp; omega), List.getElem?_eq_none (by omega)]

set_option maxRecDepth 100000 in
set_option maxHeartbeats 1000000 in
theorem remove_calls {w w0 : World} {base H R most n m : Nat} {v : Value} {A Z : List PBin} {x y : PBin} (h : Res w base H R most n v (A ++ x :: y :: Z)) (hB : RowKit.Below base w0 w) (hm : m = A.length + 1) (hl : (A ++ x :: y :: Z).length ≤ 1000) :
    Calls Tryz.prog 47 #[.pointer (some ⟨R, 2, none⟩), .int .i64 m] w fun e w' => e = .returned (.pointer (some ⟨y.1, 0, none⟩)) ∧
      ∃ v', Res w' base H R most n v' (A ++ x :: Z) ∧ RowKit.Below base w0 w' ∧ BinAt w' y.1 y.2.c y.2.s := by
  obtain ⟨g, cap, cur, q1, q2, q3, q4, q5, q6, q7⟩ : ∃ g cap cur, v = .slice (some ⟨g, 0, none⟩) (A ++ x :: y :: Z).length cap ∧ base ≤ g ∧ w.heap[g]? = some (.cells cur 42) ∧ (A ++ x :: y :: Z).length ≤ cap ∧ cap ≤ maxLen ∧ cur.size = cap ∧ cur.toList.take (A ++ x :: y :: Z).length = ptrs (A ++ x :: y :: Z) := by
    rcases h.row with ⟨_, h0⟩ | h0
    · simp at h0
    · exact h0
  subst q1
  obtain ⟨ln, hln⟩ : ∃ ln, ln = (A ++ x :: y :: Z).length := ⟨_, rfl⟩
  have hlz : ln = m + 1 + Z.length := by rw [hln, hm]; simp; omega
  have hym : y ∈ A ++ x :: y :: Z := by simp
  have hyc : w.cell? ⟨g, m, none⟩ = some (.pointer (some ⟨y.1, 0, none⟩)) := by
    have := h.cell m (by omega)
    have hg : (A ++ x :: y :: Z)[m]'(by omega) = y := by simp [hm]
    rw [hg] at this; exact this
  have t0 : w.cell? ⟨R, 2, none⟩ = some (.slice (some ⟨g, 0, none⟩) ln cap) := by rw [hln]; exact cell_of h.hR rfl
  have hgR : g ≠ R := (ne_of_types q3 h.hR (Ne.symm tR_P))
  have hgH : g ≠ H := (ne_of_types q3 h.hH (Ne.symm tH_P))
  obtain ⟨i0, hi, hz0, hz1, hz2⟩ := info_parts info_PB
  obtain ⟨wS, hwS⟩ : ∃ wS : World, wS = w.drew.setCells g (0 + m * 1) (ptrs Z) := ⟨_, rfl⟩
  have eS : 0 + m * 1 = A.length + 1 := by omega
  have sR : wS.heap[R]? = some (.cells #[.int .i64 n, .int .i64 most, .slice (some ⟨g, 0, none⟩) (A ++ x :: y :: Z).length cap] 58) := by rw [hwS]; exact at_sets_other hgR (show w.drew.heap[R]? = _ from h.hR) _ _
  have sH : wS.heap[H]? = some (.cells #[.pointer (some ⟨R, 0, none⟩)] 55) := by rw [hwS]; exact at_sets_other hgH (show w.drew.heap[H]? = _ from h.hH) _ _
  have sG : wS.heap[g]? = some (.cells (setMany cur (A.length + 1) (ptrs Z)) 42) := by rw [hwS, eS]; exact at_sets (show w.drew.heap[g]? = _ from q3) _ _
  have sB : ∀ z ∈ A ++ x :: y :: Z, BinAt wS z.1 z.2.c z.2.s := fun z hz => by
    rw [hwS]; exact at_sets_other (ne_of_types q3 (h.bins z hz) (Ne.symm tB_P)) (show w.drew.heap[z.1]? = _ from h.bins z hz) _ _
  have sz : base ≤ wS.heap.size := by rw [hwS, size_setCells]; exact h.sz
  have sb : RowKit.Below base w0 wS := by rw [hwS]; exact below_sets q2 _ _ _ hB.drew
  have y1 : wS.cell? ⟨R, 2, none⟩ = some (.slice (some ⟨g, 0, none⟩) ln cap) := by rw [hln]; exact cell_of sR rfl
  have y2 : wS.frozen? ⟨R, 2, none⟩ = false := free_of sR
  have hnl : (A ++ x :: Z).length = m + Z.length := by simp; omega
  have hfin : Hid (Res (wS.setCell ⟨R, 2, none⟩ (.slice (some ⟨g, 0, none⟩) (m + Z.length) cap)) base H R most n (.slice (some ⟨g, 0, none⟩) (m + Z.length) cap) (A ++ x :: Z) ∧ RowKit.Below base w0 (wS.setCell ⟨R, 2, none⟩ (.slice (some ⟨g, 0, none⟩) (m + Z.length) cap)) ∧ BinAt (wS.setCell ⟨R, 2, none⟩ (.slice (some ⟨g, 0, none⟩) (m + Z.length) cap)) y.1 y.2.c y.2.s) := Lib.hid (by
    have hsub : (A ++ x :: Z).Sublist (A ++ x :: y :: Z) := List.Sublist.append_left (List.Sublist.cons_cons x (List.sublist_cons_self y Z)) A
    have hb : ∀ z ∈ A ++ x :: y :: Z, BinAt (wS.setCell ⟨R, 2, none⟩ (.slice (some ⟨g, 0, none⟩) (m + Z.length) cap)) z.1 z.2.c z.2.s := fun z hz => at_set_other _ (by exact (ne_of_types (sB z hz) sR tB_R).symm) (sB z hz)
    refine ⟨⟨at_set_other _ (by exact (ne_of_types sH sR tH_R).symm) sH, at_set sR 2 _, ⟨?_, .inr ⟨g, cap, setMany cur (A.length + 1) (ptrs Z), ?_, q2, at_set_other _ (Ne.symm hgR) sG, by omega, q5, by rw [size_setMany]; omega, ?_⟩⟩, fun z hz => hb z (hsub.subset hz), (hsub.map (·.1)).nodup h.nod, ⟨h.lt.1, h.lt.2.1, fun z hz => h.lt.2.2 z (hsub.subset hz)⟩, by simp [World.setCell]; exact sz⟩, sb.setCell (p := ⟨R, 2, none⟩) h.lt.2.1 _, hb y hym⟩
    · rw [ptrs_len]; omega
    · rw [hnl]
    · rw [Nat.mul_one]; exact take_removed (by omega) q7)
  have hc1 : Hid (∀ j u, (ptrs Z)[j]? = some u → w.drew.cell? ((⟨g, m + 1, none⟩ : Addr).add j) = some u) := Lib.hid fun j u hu => by
    have hj : j < Z.length := by
      rcases Nat.lt_or_ge j (ptrs Z).length with h' | h'
      · rwa [ptrs_len] at h'
      · rw [List.getElem?_eq_none h'] at hu; cases hu
    rw [Addr.add_lit]
    have := h.cell (m + 1 + j) (by omega)
    have hg : (A ++ x :: y :: Z)[m + 1 + j]'(by omega) = Z[j] := by
      subst hm
      simp [List.getElem_append, show ¬ A.length + 1 + 1 + j < A.length by omega, show A.length + 1 + 1 + j - A.length = j + 2 by omega]
    rw [hg] at this
    simp only [ptrs, List.getElem?_map, List.getElem?_eq_getElem hj, Option.map_some, Option.some.injEq] at hu
    rw [← hu]; exact this
  have hc0 : Hid (Z.length = 0 → ∀ a : Addr, ∀ j u, (ptrs Z)[j]? = some u → w.drew.cell? (a.add j) = some u) := Lib.hid fun h0 a j u hu => by
    have : Z = [] := List.eq_nil_of_length_eq_zero h0
    subst this; simp [ptrs] at hu
  have hone : Hid (∀ u ∈ ptrs Z, u.oneCell' = true) := Lib.hid fun u hu => by
    simp only [ptrs, List.mem_map] at hu
    obtain ⟨z, _, rfl⟩ := hu; rfl
  have hsp : Hid (∀ j, j < (ptrs Z).length → (w.drew.cell? ⟨g, 0 + m * 1 + j, none⟩).isSome = true ∧ w.drew.frozen? ⟨g, 0 + m * 1 + j, none⟩ = false) := Lib.hid fun j hj => by
    rw [ptrs_len] at hj
    exact ⟨by rw [show w.drew.cell? ⟨g, 0 + m * 1 + j, none⟩ = w.cell? ⟨g, 0 + m * 1 + j, none⟩ from rfl, cell_of q3 (some_of_get! (by omega))]; rfl, free_of (w := w.drew) q3⟩
  have hpl : Hid ((ptrs Z).length = Z.length * 1) := Lib.hid (by rw [ptrs_len, Nat.mul_one])
  have hz : Z.length = ln - (m + 1) := by omega
  have hroom : Hid (m + (ln - (m + 1)) ≤ cap) := Lib.hid (by omega)
  rw [hz] at hfin hpl
  have HwS := Lib.hid hwS
  have l2 : (m : Int) ≤ 1000 := by omega
  have l3 : (m : Int) < (ln : Int) := by omega
  have l4 : (ln : Int) ≤ (cap : Int) := by omega
  have l5 : (m : Int) + 1 ≤ (cap : Int) := by omega
  have l6 : (ln : Int) ≤ 1000 := by omega
  have l7 : (m : Int) ≤ (cap : Int) := by omega
  have Hl1 := Lib.hid hlz
  have hm0 : ¬ cap = m := by omega
  clear h hB hm hl q2 q3 q4 q5 q6 q7 hln hym hgR hgH hwS sR sH sG sB sz sb hnl hz hlz
  go_enter Tryz.func47, Tryz.ntmps47
  by_cases hcap : cap = m + 1
  · have hcapT : (cap = m + 1) = True := by simp [hcap]
    have hZ0 : Hid (Z.length = 0) := Lib.hid (by have := Hl1.out; omega)
    clear hcap
    go_wp2_with fail
    have w4 : (m : Int) + 1 ≤ (ln : Int) := by omega
    have w1 : IntKind.i64.wrap ((m : Int) + 1) = (m : Int) + 1 := by rw [IntKind.wrap_i64]; omega
    have w2 : (0 : Int) ≤ (m : Int) + 1 := by omega
    have w3 : ((m : Int) + 1).toNat = m + 1 := by omega
    go_region_law (refine step_append_room rfl (.tmp 27) (.tmp 33) 40 rfl 42 i0 1 Tryz.underlying40 hi hz1 g 0 m cap (by simp [Act.eval, Act.put]) ⟨g, 0, none⟩ (ln - (m + 1)) (cap - (m + 1)) (ptrs Z) (by simp [Act.eval, Act.put]) hpl.out (hc0.out hZ0.out _) hone.out hroom.out hsp.out ?_; rw [← HwS.out])
    all_goals
      go_wp2_with fail
      go_ret
      exact ⟨rfl, _, hfin.out⟩
  · go_wp2_with fail
    have w4 : (m : Int) + 1 ≤ (ln : Int) := by omega
    have w1 : IntKind.i64.wrap ((m : Int) + 1) = (m : Int) + 1 := by rw [IntKind.wrap_i64]; omega
    have w2 : (0 : Int) ≤ (m : Int) + 1 := by omega
    have w3 : ((m : Int) + 1).toNat = m + 1 := by omega
    go_region_law (refine step_append_room rfl (.tmp 27) (.tmp 33) 40 rfl 42 i0 1 Tryz.underlying40 hi hz1 g 0 m cap (by simp [Act.eval, Act.put]) ⟨g, m + 1, none⟩ (ln - (m + 1)) (cap - (m + 1)) (ptrs Z) (by simp [Act.eval, Act.put]) hpl.out hc1.out hone.out hroom.out hsp.out ?_; rw [← HwS.out])
    all_goals
      go_wp2_with fail
      go_ret
      exact ⟨rfl, _, hfin.out⟩
end Go.Proofs.YthcgojhfbcgaiaaGreat
