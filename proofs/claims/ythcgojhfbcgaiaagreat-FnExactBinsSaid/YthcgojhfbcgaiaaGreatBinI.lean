/- impl.Bins: the counts and the sums of a histogram's bins. Conditions: the values lie in memory. -/
import Derived.Test.YthcgojhfbcgaiaaGreatBinH
import Derived.OwnWalk
namespace Go.Proofs.YthcgojhfbcgaiaaGreat
open Go.RowKit Go.Sort Go.Proofs

/-- Two rows of unlike elements lie apart. -/
theorem far_rows {w : World} {b1 b2 s1 s2 n1 n2 : Nat} {e1 e2 : TypeId} {v1 v2 : Value} {x1 x2 : List Value} (h1 : w.ownsRow b1 e1 s1 v1 n1 x1) (h2 : w.ownsRow b2 e2 s2 v2 n2 x2) (he : e1 ≠ e2) : v2.ownBlock = none ∨ v2.ownBlock ≠ v1.ownBlock := by
  rcases h2.2 with ⟨h3, _⟩ | ⟨g, cap, cur, h3, _, h4, _⟩
  · exact .inl (by rw [h3]; rfl)
  · right
    rw [h3]
    rcases h1.2 with ⟨h5, _⟩ | ⟨g', cap', cur', h5, _, h6, _⟩
    · rw [h5]; simp [Value.ownBlock]
    · rw [h5]
      intro e
      have e' : g = g' := by simpa [Value.ownBlock] using e
      exact ne_of_types h4 h6 (Ne.symm he) e'
theorem ownsRow_low {w : World} {b b' s n : Nat} {e : TypeId} {v : Value} {xs : List Value} (h : w.ownsRow b e s v n xs) (hb : b' ≤ b) : w.ownsRow b' e s v n xs := by
  rcases h.2 with h1 | ⟨g, cap, cur, h1, h2, h3⟩
  · exact ⟨h.1, .inl h1⟩
  · exact ⟨h.1, .inr ⟨g, cap, cur, h1, by omega, h3⟩⟩
theorem tI_F : (3 : Nat) ≠ 34 := by decide
theorem info_int : (Tryz.prog.info? 3).map (fun i => (i.zero, i.size, i.bytes)) = some (some (.int .i64 0), 1, 8) := by kernel_rfl

/-- The sum of the first values. -/
def sumTo (f : Nat → Nat) (k : Nat) : Nat := ((List.range k).map f).sum
theorem sumTo_succ (f : Nat → Nat) (k : Nat) : sumTo f (k + 1) = sumTo f k + f k := by simp [sumTo, List.range_succ]
theorem sumTo_le {f : Nat → Nat} {m : Nat} (h : ∀ i, f i ≤ m) (k : Nat) : sumTo f k ≤ k * m := by
  induction k with
  | zero => simp [sumTo]
  | succ k ih => rw [sumTo_succ, Nat.succ_mul]; have := h k; omega

def cntV (L : List Bn.B) : List Value := L.map fun b => .int .i64 (b.c : Int)
def sumV (L : List Bn.B) : List Value := L.map fun b => .float .f64 (floatOfInt .f64 (b.s : Int))

set_option maxRecDepth 100000 in
set_option maxHeartbeats 2000000 in
theorem bins_calls (V cap N most : Nat) (f : Nat → Nat) (oa : Option Addr) (w : World) (hxs : 0 < N → oa = some ⟨V, 0, none⟩ ∧ V < w.heap.size ∧ FloatsAt w V N (fun i => fN (f i))) (hN : N ≤ 240) (hf : ∀ i, f i < 1000) (hm1 : 1 ≤ most) (hm : most ≤ 999) :
    Calls Tryz.prog 6 #[.slice oa N cap, .int .i64 most] w fun e w' => ∃ (L : List Bn.B) (v1 v2 : Value), e = .returned (.tuple #[v1, v2]) ∧ Bn.Inv L N (sumTo f N) ∧ L.length ≤ most ∧ ((∀ k, k ≤ N → (Bn.insAll f k).length ≤ most) → L = Bn.insAll f N) ∧
      w'.ownsRow w.heap.size 3 1 v1 L.length (cntV L) ∧ w'.ownsRow w.heap.size 34 1 v2 L.length (sumV L) ∧ RowKit.Below w.heap.size w w' := by
  have hsum : ∀ k, k ≤ 240 → sumTo f k < 2 ^ 18 := fun k hk => by
    have := sumTo_le (f := f) (m := 999) (fun i => by have := hf i; omega) k
    have : k * 999 ≤ 240 * 999 := Nat.mul_le_mul_right _ hk
    omega
  have hnew := Lib.hid (newH_calls most w)
  have Hx := Lib.hid hxs
  have Hf := Lib.hid hf
  have Hs := Lib.hid hsum
  have HN := Lib.hid hN
  have Hm := Lib.hid (And.intro hm1 hm)
  have hNi : (N : Int) ≤ 240 := by omega
  obtain ⟨i0, hi, hz0, hz1, hz2⟩ := info_parts info_int
  obtain ⟨j0, hj, jz0, jz1, jz2⟩ := info_parts info_f64
  clear hxs hf hsum hN hm1 hm
  go_enter Tryz.func6, Tryz.ntmps6
  go_wp2_with (go_at_call 13; refine hnew.out.mono ?_; rintro e w1 ⟨H, R, rfl, hR, hb⟩)
  have HR := Lib.hid hR
  have Hb := Lib.hid hb
  clear hR hb hnew
  go_loopw [17] (fun s17 wr => ∃ k : Nat, s17 = .int .i64 k ∧ Hid (k ≤ N ∧ ∃ v PL, Res wr w.heap.size H R most k v PL ∧ RowKit.Below w.heap.size w wr ∧ Bn.Inv (PL.map (·.2)) k (sumTo f k) ∧ PL.length ≤ most ∧ ((∀ j, j ≤ k → (Bn.insAll f j).length ≤ most) → PL.map (·.2) = Bn.insAll f k)))
    (fun s17 _ => N - (intOf s17).toNat)
  case atStart => exact ⟨0, rfl, ⟨Nat.zero_le _, _, [], HR.out, Hb.out, Bn.Inv.nil, Nat.zero_le _, fun _ => rfl⟩⟩
  case round =>
    obtain ⟨k, rfl, hk⟩ := hrel
    have hkN : (k : Int) ≤ (N : Int) := by have := hk.out.1; omega
    rcases Nat.lt_or_ge k N with hlt | hge
    · obtain ⟨h1, v, PL, h2, h3, h4, h5, h6⟩ := hk.out
      obtain ⟨rfl, x2, x3⟩ := Hx.out (by omega)
      have hcell : wr.cell? ⟨V, k, none⟩ = some (.float .f64 (floatOfInt .f64 (f k : Int))) := by
        have := (h3.cell x2).trans (x3 k hlt)
        rw [fN_b (f k) (by have := Hf.out k; omega)] at this; exact this
      have hins := Lib.hid (insertH_calls (f := f k) h2 h3 h4 (by have := HN.out; omega) (by have := HN.out; omega) (by have := Hs.out k (by have := HN.out; omega); have := Hf.out k; omega) (by have := Hf.out k; omega) Hm.out.1 Hm.out.2 h5)
      obtain ⟨x, hx⟩ : ∃ x, x = floatOfInt .f64 (f k : Int) := ⟨_, rfl⟩
      rw [← hx] at hcell hins
      have hki : (k : Int) < (N : Int) := by omega
      have H6 := Lib.hid h6
      clear h1 h2 h3 h4 h5 h6 x2 x3 hx
      go_wp2_with (go_at_call 14; refine hins.out.mono ?_; rintro e w2 ⟨rfl, v', PL', g1, g2, g3, g4, g5⟩; have G := Lib.hid (And.intro g1 (And.intro g2 (And.intro g3 (And.intro g4 g5)))); clear g1 g2 g3 g4 g5)
      go_roundw
      case rel => exact ⟨k + 1, by go_num, ⟨by omega, v', PL', G.out.1, G.out.2.1, by rw [sumTo_succ]; exact G.out.2.2.1, G.out.2.2.2.1, fun h => by
        have e1 := H6.out (fun j hj => h j (by omega))
        have e2 := G.out.2.2.2.2 (by rw [e1]; exact h (k + 1) (Nat.le_refl _))
        rw [e2, e1]; rfl⟩⟩
      case measure => simp [intOf]; omega
    · obtain rfl : k = N := by have := hk.out.1; omega
      obtain ⟨_, v, PL, h2, h3, h4, h5, h6⟩ := hk.out
      have H6 := Lib.hid h6
      clear h6
      obtain ⟨va, vc, rfl⟩ := h2.slice
      have hbn := Lib.hid (binsH_calls h2)
      obtain ⟨w2, hw2⟩ : ∃ w2 : World, w2 = wr := ⟨_, rfl⟩
      rw [← hw2] at h2 h3 hbn ⊢
      obtain ⟨ln, hln⟩ : ∃ ln, ln = PL.length := ⟨_, rfl⟩
      rw [← hln] at hbn
      have H2 := Lib.hid h2
      have H3 := Lib.hid h3
      have H4 := Lib.hid h4
      have H5 := Lib.hid h5
      have Hln := Lib.hid hln
      have hl9 : (ln : Int) ≤ 999 := by have := Hm.out; omega
      have HLn9 : Hid (ln ≤ 999) := Lib.hid (by omega)
      clear h2 h3 h4 h5 hln hw2 wr hkN hk hge HR Hb Hx
      go_wp2_with (go_at_call 15; refine hbn.out.mono ?_; rintro e w3 ⟨rfl, rfl⟩)
      go_loopw [28, 9, 10] (fun s28 s9 s10 wr => ∃ j : Nat, s28 = .int .i64 j ∧ (∃ a c, s9 = .slice a j c) ∧ (∃ a c, s10 = .slice a j c) ∧ Hid (j ≤ ln ∧ RowKit.Below w2.heap.size w2 wr) ∧ Hid (wr.ownsRow w2.heap.size 3 1 s9 j (cntV ((PL.map (·.2)).take j))) ∧ Hid (wr.ownsRow w2.heap.size 34 1 s10 j (sumV ((PL.map (·.2)).take j))))
        (fun s28 _ _ _ => ln - (intOf s28).toNat)
      case atStart => exact ⟨0, rfl, ⟨_, _, rfl⟩, ⟨_, _, rfl⟩, ⟨Nat.zero_le _, RowKit.Below.refl _ _⟩, World.ownsRow_nil _ _ _ _, World.ownsRow_nil _ _ _ _⟩
      case round =>
        obtain ⟨j, rfl, ⟨a9, c9, rfl⟩, ⟨a10, c10, rfl⟩, hj0, ho1, ho2⟩ := hrel
        rcases Nat.lt_or_ge j ln with hlt | hge
        · have h2 := H2.out
          obtain ⟨g, cap, cur, q1, _, q3, _⟩ : ∃ g cap cur, Value.slice va PL.length vc = .slice (some ⟨g, 0, none⟩) PL.length cap ∧ w.heap.size ≤ g ∧ w2.heap[g]? = some (.cells cur 42) ∧ PL.length ≤ cap ∧ cap ≤ maxLen ∧ cur.size = cap ∧ cur.toList.take PL.length = ptrs PL := by
            rcases h2.row with ⟨_, h0⟩ | h0
            · have := Hln.out; rw [h0] at this; simp at this; omega
            · exact h0
          obtain ⟨rfl, _, rfl⟩ : va = some ⟨g, 0, none⟩ ∧ True ∧ vc = cap := by injection q1 with a1 a2 a3; exact ⟨a1, trivial, a3⟩
          have hjl : j < PL.length := by rw [← Hln.out]; exact hlt
          obtain ⟨z, hz⟩ : ∃ z, z = PL[j] := ⟨_, rfl⟩
          have hzm : z ∈ PL := by rw [hz]; exact List.getElem_mem hjl
          have k0 : wr.cell? ⟨g, j, none⟩ = some (.pointer (some ⟨z.1, 0, none⟩)) := (hj0.out.2.cell (lt_of_at q3)).trans (by rw [hz]; exact h2.cell j hjl)
          have hzb := h2.bins z hzm
          have hzl := lt_of_at hzb
          obtain ⟨sf, hsf⟩ : ∃ sf, sf = floatOfInt .f64 (z.2.s : Int) := ⟨_, rfl⟩
          have k1 : wr.cell? ⟨z.1, 0, none⟩ = some (.int .i64 (z.2.c : Int)) := (hj0.out.2.cell hzl).trans (cell_of hzb rfl)
          have ks : ∀ w', RowKit.Below w2.heap.size w2 w' → w'.cell? ⟨z.1, 1, none⟩ = some (.float .f64 sf) := fun w' hb => (hb.cell hzl).trans (by rw [hsf]; exact cell_of hzb rfl)
          have Hks := Lib.hid ks
          have htk : (PL.map (·.2)).take (j + 1) = (PL.map (·.2)).take j ++ [z.2] := by
            rw [List.take_succ_eq_append_getElem (by simpa using hjl)]; simp [hz]
          have Htk := Lib.hid htk
          have Hsf := Lib.hid hsf
          have hji : (j : Int) < (ln : Int) := by omega
          obtain ⟨cz, hcz⟩ : ∃ cz : Int, cz = (z.2.c : Int) := ⟨_, rfl⟩
          rw [← hcz] at k1
          have Hcz := Lib.hid hcz
          clear h2 q1 q3 hjl hz hzm hzb hzl ks htk hsf hcz
          go_wp2_with (first
            | (at_builtin; refine wpList_append_own _ rfl (.tmp 32) (.tmp 37) 26 rfl w2.heap.size 3 i0 (.int .i64 0) 1 8 Tryz.underlying26 hi hz0 hz1 hz2 rfl (by decide) _ _ _ rfl (ho1.out.alloc _) ⟨wr.heap.size, 0, none⟩ 1 1 [.int .i64 cz] rfl rfl ?c1 ?c2 ?c3 ?c4 ?c5 ?_))
          case c2 => rfl
          case c3 => have := HLn9.out; unfold maxLen; omega
          case c4 => have := HLn9.out; omega
          case c5 => have := hj0.out.2.size; simp; omega
          intro v9 w3 hown9 hgrow9 hv9
          have hb3 : RowKit.Below w2.heap.size w2 w3 := (hj0.out.2.alloc hj0.out.2.size (.cells #[.int .i64 cz] 3)).grown hgrow9 (by have := hj0.out.2.size; simp; omega) fun q hq => (ho1.out.lt q hq).1
          have ho2' := (ho2.out.alloc (.cells #[.int .i64 cz] 3)).kept hgrow9 (far_rows (ho1.out.alloc (.cells #[.int .i64 cz] 3)) (ho2.out.alloc (.cells #[.int .i64 cz] 3)) tI_F)
          have k2 := Hks.out w3 hb3
          obtain ⟨b9, d9, rfl⟩ : ∃ a c, v9 = .slice a (j + 1) c := own_slice hown9
          have HO9 := Lib.hid hown9
          have Hb3 := Lib.hid hb3
          have HO2 := Lib.hid ho2'
          clear hown9 hgrow9 hv9 hb3 ho2' k0 k1
          go_wp2_with (first
            | (at_builtin; refine wpList_append_own _ rfl (.tmp 39) (.tmp 44) 23 rfl w2.heap.size 34 j0 (.float .f64 0) 1 8 Tryz.underlying23 hj jz0 jz1 jz2 rfl (by decide) _ _ _ rfl (HO2.out.alloc _) ⟨w3.heap.size, 0, none⟩ 1 1 [.float .f64 sf] rfl rfl ?d1 ?d2 ?d3 ?d4 ?d5 ?_))
          case d1 =>
            intro i u hu
            match i, hu with
            | 0, hu => simp at hu; subst hu; simp [Addr.add]
          case d2 => intro u hu; simp at hu; subst hu; rfl
          case d3 => have := HLn9.out; unfold maxLen; omega
          case d4 => have := HLn9.out; omega
          case d5 => have := Hb3.out.size; simp; omega
          intro v10 w4 hown10 hgrow10 hv10
          have hb4 : RowKit.Below w2.heap.size w2 w4 := (Hb3.out.alloc Hb3.out.size (.cells #[.float .f64 sf] 34)).grown hgrow10 (by have := Hb3.out.size; simp; omega) fun q hq => (HO2.out.lt q hq).1
          have ho9' := (HO9.out.alloc (.cells #[.float .f64 sf] 34)).kept hgrow10 (far_rows (HO2.out.alloc (.cells #[.float .f64 sf] 34)) (HO9.out.alloc (.cells #[.float .f64 sf] 34)) (Ne.symm tI_F))
          obtain ⟨b10, d10, rfl⟩ : ∃ a c, v10 = .slice a (j + 1) c := own_slice hown10
          have HO10 := Lib.hid hown10
          have Hb4 := Lib.hid hb4
          have HO9' := Lib.hid ho9'
          clear hown10 hgrow10 hv10 hb4 ho9' k2
          go_wp2
          go_roundw
          case rel => exact ⟨j + 1, by go_num, ⟨_, _, rfl⟩, ⟨_, _, rfl⟩, ⟨by omega, Hb4.out⟩, Lib.hid (by rw [Htk.out]; have := HO9'.out; rw [Hcz.out] at this; unfold cntV at this ⊢; rw [List.map_append]; exact this), Lib.hid (by rw [Htk.out]; have := HO10.out; rw [Hsf.out] at this; unfold sumV at this ⊢; rw [List.map_append]; exact this)⟩
          case measure => simp [intOf]; omega
        · obtain rfl : j = ln := by have := hj0.out.1; omega
          go_wp2_with fail
          go_ret2
          have e : (PL.map (·.2)).take j = PL.map (·.2) := List.take_of_length_le (by rw [List.length_map, ← Hln.out]; exact Nat.le_refl _)
          have el : (PL.map (·.2)).length = j := by rw [List.length_map, ← Hln.out]
          refine ⟨PL.map (·.2), _, _, rfl, H4.out, by rw [List.length_map]; exact H5.out, H6.out, ?_, ?_, H3.out.trans (hj0.out.2.mono H3.out.size)⟩
          · rw [el]; have := ho1.out; rw [e] at this; exact ownsRow_low this H3.out.size
          · rw [el]; have := ho2.out; rw [e] at this; exact ownsRow_low this H3.out.size
end Go.Proofs.YthcgojhfbcgaiaaGreat
