/- spec.Different on values in order. Conditions: the values lie in memory. -/
import Derived.Test.YthcgojhfbcgaiaaGreatExA
import Derived.Test.YthcgojhfbcgaiaaGreatBinI
import Derived.Laws.OwnMore
namespace Go.Proofs.YthcgojhfbcgaiaaGreat
open Go.RowKit Go.Sort Go.Proofs

/-- The last value seen, in bits: minus one at first. -/
def lastB (g : Nat → Nat) (j : Nat) : Nat := if j = 0 then 13830554455654793216 else floatOfInt .f64 (g (j - 1) : Int)
theorem neg_one : (13830554455654793216 : Nat) = FX (-16) := by decide +kernel
theorem order_last {g : Nat → Nat} (hg : ∀ i, g i < 2 ^ 30) (j : Nat) : FloatKind.f64.format.order (floatOfInt .f64 (g j : Int)) (lastB g j) = some (if j = 0 then .gt else compare (g j) (g (j - 1))) := by
  have h1 := hg j
  show Ieee.double.order _ _ = _
  by_cases h : j = 0
  · subst h
    unfold lastB
    have hc : compare (((16 * g 0 : Nat) : Int)) (-16) = .gt := by simp only [compare, compareOfLessAndEq]; rw [if_neg (by omega), if_neg (by omega)]
    rw [if_pos rfl, if_pos rfl, neg_one, FI_FX (g 0) (by omega), FX_order (by omega) (by omega), hc]
  · unfold lastB
    rw [if_neg h, if_neg h]
    have h2 := hg (j - 1)
    rw [order_pos (FI_lt _ (by omega)) (FI_lt _ (by omega)), FI_FP _ (by omega), FI_FP _ (by omega)]
    congr 1
    have m1 := FP_le (p := 0) (q := 0) (j := g j) (l := g (j - 1)) (by omega) (by omega) (by omega) (by omega)
    have m2 := FP_le (p := 0) (q := 0) (j := g (j - 1)) (l := g j) (by omega) (by omega) (by omega) (by omega)
    rw [Nat.pow_zero, Nat.mul_one, Nat.mul_one] at m1 m2
    rcases Nat.lt_trichotomy (g j) (g (j - 1)) with h3 | h3 | h3
    · rw [Nat.compare_eq_lt.2 h3, Nat.compare_eq_lt.2 (by omega)]
    · rw [h3]; simp
    · rw [Nat.compare_eq_gt.2 h3, Nat.compare_eq_gt.2 (by omega)]

/-- How the list grows by one value: a new bin, or one more in the last. -/
theorem insAll_step {g : Nat → Nat} {N j : Nat} (h : ∀ i, i + 1 < N → g i ≤ g (i + 1)) (hj : j + 1 ≤ N) :
    ((j = 0 ∨ g j ≠ g (j - 1)) ∧ Bn.insAll g (j + 1) = Bn.insAll g j ++ [⟨1, g j⟩]) ∨ (j ≠ 0 ∧ g j = g (j - 1) ∧ ∃ A c s, Bn.insAll g j = A ++ [⟨c, s⟩] ∧ Bn.insAll g (j + 1) = A ++ [⟨c + 1, s + g j⟩]) := by
  cases j with
  | zero => exact .inl ⟨.inl rfl, rfl⟩
  | succ k =>
    obtain ⟨A, c, h1, h2, h3, h4⟩ := Bn.insAll_last h k (by omega)
    have hg := h k (by omega)
    rw [Nat.add_sub_cancel]
    by_cases he : g (k + 1) = g k
    · refine .inr ⟨by omega, he, A, c, c * g k, h2, ?_⟩
      show Bn.ins (g (k + 1)) (Bn.insAll g (k + 1)) = _
      rw [h2, he, Bn.ins_at (g k) A ⟨c, c * g k⟩ [] (fun a ha => by have := h3 a ha; omega) (by show g k * c ≤ c * g k; rw [Nat.mul_comm]; exact Nat.le_refl _)]
    · refine .inl ⟨.inr he, ?_⟩
      show Bn.ins (g (k + 1)) (Bn.insAll g (k + 1)) = _
      rw [Bn.ins_end]
      intro a ha
      rw [h2] at ha
      rcases List.mem_append.1 ha with ha | ha
      · have := h3 a ha
        have := Nat.mul_le_mul_right a.c hg
        omega
      · simp at ha; subst ha
        show ¬ g (k + 1) * c ≤ c * g k
        have := Nat.mul_lt_mul_of_pos_right (show g k < g (k + 1) by omega) (show 0 < c by omega)
        rw [Nat.mul_comm c]; omega
theorem insAll_len_le (g : Nat → Nat) : ∀ k, (Bn.insAll g k).length ≤ k := fun k => by
  induction k with
  | zero => simp [Bn.insAll]
  | succ k ih =>
    have : ∀ (f : Nat) (L : List Bn.B), (Bn.ins f L).length ≤ L.length + 1 := fun f L => by
      induction L with
      | nil => simp [Bn.ins]
      | cons b L ihL => rw [Bn.ins]; split <;> simp; exact ihL
    have := this (g k) (Bn.insAll g k)
    show (Bn.ins (g k) (Bn.insAll g k)).length ≤ k + 1
    omega
theorem ins_cnt (f : Nat) : ∀ L : List Bn.B, ((Bn.ins f L).map (·.c)).sum = (L.map (·.c)).sum + 1 ∧ ((Bn.ins f L).map (·.s)).sum = (L.map (·.s)).sum + f
  | [] => by simp [Bn.ins]
  | b :: L => by
    rw [Bn.ins]
    split
    · simp; omega
    · have := ins_cnt f L; simp; omega
theorem insAll_cnt (g : Nat → Nat) : ∀ k, ((Bn.insAll g k).map (·.c)).sum = k ∧ ((Bn.insAll g k).map (·.s)).sum = sumTo g k
  | 0 => ⟨rfl, rfl⟩
  | k + 1 => by
    have h := ins_cnt (g k) (Bn.insAll g k)
    have := insAll_cnt g k
    rw [sumTo_succ]
    exact ⟨by show ((Bn.ins (g k) (Bn.insAll g k)).map (·.c)).sum = _; omega, by show ((Bn.ins (g k) (Bn.insAll g k)).map (·.s)).sum = _; omega⟩
theorem own_some {w : World} {base n c size : Nat} {e : TypeId} {oa : Option Addr} {xs : List Value} (h : w.ownsRow base e size (.slice oa n c) n xs) (hn : 0 < n) : ∃ g, oa = some ⟨g, 0, none⟩ ∧ base ≤ g := by
  rcases h.2 with ⟨_, h2⟩ | ⟨g, cap, cur, h1, h2, _⟩
  · omega
  · exact ⟨g, by injection h1, h2⟩
theorem cntV_append (A B : List Bn.B) : cntV (A ++ B) = cntV A ++ cntV B := by simp [cntV]
theorem sumV_append (A B : List Bn.B) : sumV (A ++ B) = sumV A ++ sumV B := by simp [sumV]
theorem cntV_len (A : List Bn.B) : (cntV A).length = A.length := by simp [cntV]
theorem sumV_len (A : List Bn.B) : (sumV A).length = A.length := by simp [sumV]
theorem set_last {α : Type} (X : List α) (x y : α) (p : Nat) (h : X.length = p) : (X ++ [x]).set p y = X ++ [y] := by
  subst h; simp

set_option maxRecDepth 100000 in
set_option maxHeartbeats 4000000 in
theorem different_calls (V cap N : Nat) (g : Nat → Nat) (w : World) (hf : FloatsAt w V N (fun i => fN (g i))) (hV : V < w.heap.size) (hpos : 1 ≤ N) (hN : N ≤ 200) (hg : ∀ i, i + 1 < N → g i ≤ g (i + 1)) (hgb : ∀ i, g i < 1000) :
    Calls Tryz.prog 7 #[.slice (some ⟨V, 0, none⟩) N cap] w fun e w' => ∃ (v1 v2 : Value), e = .returned (.tuple #[v1, v2]) ∧
      w'.ownsRow w.heap.size 3 1 v1 (Bn.insAll g N).length (cntV (Bn.insAll g N)) ∧ w'.ownsRow w.heap.size 34 1 v2 (Bn.insAll g N).length (sumV (Bn.insAll g N)) ∧ RowKit.Below w.heap.size w w' := by
  have hso : Hid (Calls Tryz.prog 4 #[.slice (some ⟨V, 0, none⟩) N cap] w fun e w' => ∃ V' cap', e = .returned (.slice (some ⟨V', 0, none⟩) N cap') ∧ Hid (FloatsAt w' V' N (fun i => fN (g i)) ∧ V' < w'.heap.size ∧ RowKit.Below w.heap.size w w')) :=
    Lib.hid ((sortedN_calls V cap N g w hf hV hpos (by omega) (fun i => by have := hgb i; omega)).mono fun e w' ⟨V', cap', bs, h1, h2, h3, h4, h5, h6, h7⟩ => ⟨V', cap', h1, by
      have e1 : bs = (List.range N).map g := keys_one h2 h3 (by
        rw [List.pairwise_map]
        have hm : ∀ d i, i + d < N → g i ≤ g (i + d) := fun d => by
          induction d with
          | zero => intro i _; exact Nat.le_refl _
          | succ d ih => intro i hi; exact Nat.le_trans (ih i (by omega)) (hg (i + d) (by omega))
        refine List.pairwise_lt_range.imp_of_mem fun {a b} _ hb h => ?_
        rw [List.mem_range] at hb
        have := hm (b - a) a (by omega)
        rwa [show a + (b - a) = b by omega] at this)
      refine ⟨fun i hi => (h4 i hi).trans ?_, h6, h7⟩
      show some (Value.float .f64 (fN bs[i]!).b) = some (.float .f64 (fN (g i)).b)
      rw [getElem!_pos bs i (by rw [e1]; simpa using hi)]
      simp [e1]⟩)
  obtain ⟨i0, hi, hz0, hz1, hz2⟩ := info_parts info_int
  obtain ⟨j0, hj, jz0, jz1, jz2⟩ := info_parts info_f64
  have Hg := Lib.hid hg
  have Hgb := Lib.hid hgb
  have Hw := Lib.hid (lt_of_at (w := w) (b := V) (o := w.heap[V]) (by simp [hV]))
  have hNi : (N : Int) ≤ 200 := by omega
  have HN2 := Lib.hid hN
  clear hf hV hpos hN hg hgb
  go_enter Tryz.func7, Tryz.ntmps7
  go_wp2_with (go_at_call 4; refine hso.out.mono ?_; rintro e w2 ⟨V', cap', rfl, hS⟩)
  obtain ⟨B, hB⟩ : ∃ B, B = w2.heap.size := ⟨_, rfl⟩
  have HB := Lib.hid hB
  clear hB
  go_loopw [4, 5, 6, 12] (fun s4 s5 s6 s12 wr => ∃ j : Nat, s12 = .int .i64 j ∧ s6 = .float .f64 (lastB g j) ∧ (∃ a c, s4 = .slice a (Bn.insAll g j).length c) ∧ (∃ a c, s5 = .slice a (Bn.insAll g j).length c) ∧ Hid (j ≤ N ∧ RowKit.Below B w2 wr) ∧
      Hid (wr.ownsRow B 3 1 s4 (Bn.insAll g j).length (cntV (Bn.insAll g j))) ∧ Hid (wr.ownsRow B 34 1 s5 (Bn.insAll g j).length (sumV (Bn.insAll g j))))
    (fun _ _ _ s12 _ => N - (intOf s12).toNat)
  case atStart => exact ⟨0, rfl, rfl, ⟨_, _, rfl⟩, ⟨_, _, rfl⟩, ⟨Nat.zero_le _, RowKit.Below.refl _ _⟩, World.ownsRow_nil _ _ _ _, World.ownsRow_nil _ _ _ _⟩
  case round =>
    obtain ⟨j, rfl, rfl, ⟨a4, c4, rfl⟩, ⟨a5, c5, rfl⟩, hj0, ho4, ho5⟩ := hrel
    rcases Nat.lt_or_ge j N with hlt | hge
    · obtain ⟨vb, hvb⟩ : ∃ vb, vb = floatOfInt .f64 (g j : Int) := ⟨_, rfl⟩
      have hcell : wr.cell? ⟨V', j, none⟩ = some (.float .f64 vb) := by
        have e1 : V' < B := by rw [HB.out]; exact hS.out.2.1
        have := (hj0.out.2.cell e1).trans (hS.out.1 j hlt)
        rw [fN_b (g j) (by have := Hgb.out j; omega), ← hvb] at this; exact this
      have hgj := Hgb.out j
      have hord := order_last (g := g) (fun i => by have := Hgb.out i; omega) j
      rw [← hvb] at hord
      have hcn := insAll_cnt g j
      have hsb := sumTo_le (f := g) (m := 999) (fun i => by have := Hgb.out i; omega) j
      have hj2 : j ≤ 200 := by have := HN2.out; omega
      have hsb2 : j * 999 ≤ 200 * 999 := Nat.mul_le_mul_right _ hj2
      have hll := insAll_len_le g j
      have hji : (j : Int) < (N : Int) := by omega
      have hBsz := hj0.out.2.size
      have hBw : B ≤ wr.heap.size := by rw [HB.out]; exact hBsz
      rcases insAll_step (g := g) (N := N) (j := j) Hg.out (by omega) with ⟨hc1, hnew⟩ | ⟨hj1, hge1, A, c0, s0, hA, hnew⟩
      · -- a new one
        have hgt : FloatKind.f64.format.order vb (lastB g j) = some .gt := by
          rw [hord]
          congr 1
          split
          · rfl
          · rename_i h0
            have h1 : g j ≠ g (j - 1) := by rcases hc1 with h | h; · exact absurd h h0
                                            · exact h
            have h2 := Hg.out (j - 1) (by omega)
            rw [show j - 1 + 1 = j by omega] at h2
            exact Nat.compare_eq_gt.2 (by omega)
        obtain ⟨p, hp⟩ : ∃ p, p = (Bn.insAll g j).length := ⟨_, rfl⟩
        have hp200 : p ≤ 200 := by omega
        rw [← hp] at ho4 ho5 ⊢
        obtain ⟨lb, hlb⟩ : ∃ lb, lb = lastB g j := ⟨_, rfl⟩
        rw [← hlb] at hgt ⊢
        have HP : Hid (p ≤ 200) := hp200
        clear hord hc1 hcn hsb hsb2 hll hlb hBsz hgj hp200 hj2
        have Hnew := Lib.hid hnew
        have Hp := Lib.hid hp
        have Hvb0 := Lib.hid hvb
        clear hnew hp hvb
        go_wp2_with (first
          | (at_builtin; refine wpList_append_own _ rfl (.tmp 19) (.tmp 20) 26 rfl B 3 i0 (.int .i64 0) 1 8 Tryz.underlying26 hi hz0 hz1 hz2 rfl (by decide) _ _ _ rfl (ho4.out.alloc _) ⟨wr.heap.size, 0, none⟩ 1 1 [.int .i64 0] rfl rfl ?c1 ?c2 ?c3 ?c4 ?c5 ?_))
        case c1 =>
          intro i u hu
          match i, hu with
          | 0, hu => simp at hu; subst hu; simp [Addr.add]
        case c2 => intro u hu; simp at hu; subst hu; rfl
        case c3 => have := HP.out; unfold maxLen; omega
        case c4 => have := HP.out; omega
        case c5 => simp; omega
        intro v4' w3 hown4 hgrow4 hv4
        have hb3 : RowKit.Below B w2 w3 := (hj0.out.2.alloc hBw (.cells #[.int .i64 0] 3)).grown hgrow4 (by simp; omega) fun q hq => (ho4.out.lt q hq).1
        have ho5' := (ho5.out.alloc (.cells #[.int .i64 0] 3)).kept hgrow4 (far_rows (ho4.out.alloc (.cells #[.int .i64 0] 3)) (ho5.out.alloc (.cells #[.int .i64 0] 3)) tI_F)
        obtain ⟨b4, c4', rfl⟩ : ∃ a c, v4' = .slice a (p + 1) c := own_slice hown4
        have hb3s : B ≤ w3.heap.size := Nat.le_trans hBw (Nat.le_trans (by simp) hgrow4.size)
        have HO4 := Lib.hid hown4
        have Hb3 := Lib.hid hb3
        have HO5 := Lib.hid ho5'
        clear hown4 hgrow4 hv4 hb3 ho5'
        go_wp2_with (first
          | (at_builtin; refine wpList_append_own _ rfl (.tmp 22) (.tmp 23) 23 rfl B 34 j0 (.float .f64 0) 1 8 Tryz.underlying23 hj jz0 jz1 jz2 rfl (by decide) _ _ _ rfl (HO5.out.alloc _) ⟨w3.heap.size, 0, none⟩ 1 1 [.float .f64 0] rfl rfl ?d1 ?d2 ?d3 ?d4 ?d5 ?_))
        case d1 =>
          intro i u hu
          match i, hu with
          | 0, hu => simp at hu; subst hu; simp [Addr.add]
        case d2 => intro u hu; simp at hu; subst hu; rfl
        case d3 => have := HP.out; unfold maxLen; omega
        case d4 => have := HP.out; omega
        case d5 => simp; omega
        intro v5' wx hown5 hgrow5 hv5
        have hb4 : RowKit.Below B w2 wx := (Hb3.out.alloc hb3s (.cells #[.float .f64 0] 34)).grown hgrow5 (by simp; omega) fun q hq => (HO5.out.lt q hq).1
        have ho4' := (HO4.out.alloc (.cells #[.float .f64 0] 34)).kept hgrow5 (far_rows (HO5.out.alloc (.cells #[.float .f64 0] 34)) (HO4.out.alloc (.cells #[.float .f64 0] 34)) (Ne.symm tI_F))
        obtain ⟨b5, c5', rfl⟩ : ∃ a c, v5' = .slice a (p + 1) c := own_slice hown5
        obtain ⟨g4, rfl, hg4⟩ := own_some ho4' (by omega)
        obtain ⟨g5, rfl, hg5⟩ := own_some hown5 (by omega)
        obtain ⟨c0, hc0'⟩ : ∃ c0 : Nat, c0 = 0 := ⟨_, rfl⟩
        obtain ⟨s0, hs0'⟩ : ∃ s0 : Nat, s0 = 0 := ⟨_, rfl⟩
        obtain ⟨A, hA⟩ : ∃ A, A = Bn.insAll g j := ⟨_, rfl⟩
        have hAp : A.length = p := by rw [hA, Hp.out]
        have hnew : Bn.insAll g (j + 1) = A ++ [⟨c0 + 1, s0 + g j⟩] := by rw [Hnew.out, hA, hc0', hs0']; simp
        obtain ⟨sf0, hsf0⟩ : ∃ x, x = floatOfInt .f64 (s0 : Int) := ⟨_, rfl⟩
        obtain ⟨sf1, hsf1⟩ : ∃ x, x = floatOfInt .f64 ((s0 + g j : Nat) : Int) := ⟨_, rfl⟩
        have ho4x : Hid (wx.ownsRow B 3 1 (.slice (some ⟨g4, 0, none⟩) (p + 1) c4') (p + 1) (cntV A ++ [.int .i64 (c0 : Int)])) := Lib.hid (by rw [hA, hc0']; exact ho4')
        have ho5x : Hid (wx.ownsRow B 34 1 (.slice (some ⟨g5, 0, none⟩) (p + 1) c5') (p + 1) (sumV A ++ [.float .f64 (floatOfInt .f64 (s0 : Int))])) := Lib.hid (by rw [hA, hs0', nan0]; exact hown5)
        have hbx := Lib.hid hb4
        have hs0 : s0 ≤ 200000 := by omega
        have hc0 : c0 ≤ 200 := by omega
        have hgj := Hgb.out j
        have hp200 : p ≤ 200 := HP.out
        have hvb := Hvb0.out
        clear hown5 hgrow5 hv5 hb4 ho4' hc0' hs0' hA

        -- the last count and the last sum: one more, and the value more
        have kx4 : wx.cell? ⟨g4, p, none⟩ = some (.int .i64 (c0 : Int)) := by rw [World.ownsRow.cellAt ho4x.out p (by omega)]; simp [cntV_len, hAp]
        have fx4 : wx.frozen? ⟨g4, p, none⟩ = false := World.ownsRow.frozenAt ho4x.out p
        obtain ⟨ho4y, hgy⟩ := World.ownsRow.stored ho4x.out p (.int .i64 ((c0 : Int) + 1))
        have ho5y := ho5x.out.kept hgy (far_rows ho4x.out ho5x.out tI_F)
        have kx5 : (wx.setCell ⟨g4, p, none⟩ (.int .i64 ((c0 : Int) + 1))).cell? ⟨g5, p, none⟩ = some (.float .f64 sf0) := by rw [World.ownsRow.cellAt ho5y p (by omega), hsf0]; simp [sumV_len, hAp]
        have fx5 : (wx.setCell ⟨g4, p, none⟩ (.int .i64 ((c0 : Int) + 1))).frozen? ⟨g5, p, none⟩ = false := World.ownsRow.frozenAt ho5y p
        obtain ⟨ho5z, hgz⟩ := World.ownsRow.stored ho5y p (.float .f64 sf1)
        have ho4z := ho4y.kept hgz (far_rows ho5y ho4y (Ne.symm tI_F))
        have hbz : RowKit.Below B w2 ((wx.setCell ⟨g4, p, none⟩ (.int .i64 ((c0 : Int) + 1))).setCell ⟨g5, p, none⟩ (.float .f64 sf1)) := (hbx.out.setCell (p := ⟨g4, p, none⟩) hg4 _).setCell (p := ⟨g5, p, none⟩) hg5 _
        have hfin4 : Hid (((wx.setCell ⟨g4, p, none⟩ (.int .i64 ((c0 : Int) + 1))).setCell ⟨g5, p, none⟩ (.float .f64 sf1)).ownsRow B 3 1 (.slice (some ⟨g4, 0, none⟩) (p + 1) c4') (p + 1) (cntV (Bn.insAll g (j + 1)))) := Lib.hid (by
          rw [hnew, cntV_append]
          rw [set_last _ _ _ p (by rw [cntV_len, hAp])] at ho4z
          have e : cntV [(⟨c0 + 1, s0 + g j⟩ : Bn.B)] = [.int .i64 ((c0 : Int) + 1)] := by simp [cntV]
          rw [e]; exact ho4z)
        have hfin5 : Hid (((wx.setCell ⟨g4, p, none⟩ (.int .i64 ((c0 : Int) + 1))).setCell ⟨g5, p, none⟩ (.float .f64 sf1)).ownsRow B 34 1 (.slice (some ⟨g5, 0, none⟩) (p + 1) c5') (p + 1) (sumV (Bn.insAll g (j + 1)))) := Lib.hid (by
          rw [hnew, sumV_append]
          rw [set_last _ _ _ p (by rw [sumV_len, hAp])] at ho5z
          have e : sumV [(⟨c0 + 1, s0 + g j⟩ : Bn.B)] = [.float .f64 sf1] := by rw [hsf1]; simp [sumV]
          rw [e]; exact ho5z)
        have hlen : Hid ((Bn.insAll g (j + 1)).length = p + 1) := Lib.hid (by rw [hnew]; simp [hAp])
        have q := run_fadd' (x := sf0) (y := vb) (r := sf1) (by rw [hsf0, hsf1, hvb, FI_FX s0 (by omega), FI_FX (g j) (by omega), FI_FX (s0 + g j) (by omega), FX_add (by omega) (by omega)]; congr 2; omega)
        have Hbz := Lib.hid hbz
        have hpi : (p : Int) ≤ 200 := by omega
        have hp1 : (p : Int) < (p : Int) + 1 := by omega
        have hc0i : (c0 : Int) ≤ 200 := by omega
        have Hvb := Lib.hid hvb
        clear ho4y hgy ho5y ho5z hgz ho4z hbz hsf0 hsf1 hvb hnew hAp hg4 hg5 hs0 hc0 hp200
        go_wp2_with fail
        go_roundw
        case rel => exact ⟨j + 1, by go_num, by unfold lastB; rw [if_neg (by omega), Nat.add_sub_cancel, Hvb.out], ⟨_, _, by rw [hlen.out]⟩, ⟨_, _, by rw [hlen.out]⟩, ⟨by omega, Hbz.out⟩, by rw [hlen.out]; exact hfin4, by rw [hlen.out]; exact hfin5⟩
        case measure => simp [intOf]; omega
      · -- one more of the last
        have heq : FloatKind.f64.format.order vb (lastB g j) = some .eq := by
          rw [hord, if_neg hj1, hge1]; simp
        have hlastE : Hid (lastB g j = vb) := Lib.hid (by unfold lastB; rw [if_neg hj1, ← hge1, hvb])
        obtain ⟨p, hp⟩ : ∃ p, p = A.length := ⟨_, rfl⟩
        have hlenj : (Bn.insAll g j).length = p + 1 := by rw [hA, hp]; simp
        rw [hlenj] at ho4 ho5 hll ⊢
        rw [hA] at ho4 ho5
        obtain ⟨lb, hlb⟩ : ∃ lb, lb = lastB g j := ⟨_, rfl⟩
        rw [← hlb] at heq hlastE ⊢
        obtain ⟨g4, rfl, hg4⟩ := own_some ho4.out (by omega)
        obtain ⟨g5, rfl, hg5⟩ := own_some ho5.out (by omega)
        obtain ⟨wx, hwx⟩ : ∃ wx : World, wx = wr := ⟨_, rfl⟩
        rw [← hwx] at ho4 ho5 hj0 hcell ⊢
        clear hwx hBsz hBw wr
        obtain ⟨c4', hc4⟩ : ∃ c, c = c4 := ⟨_, rfl⟩
        obtain ⟨c5', hc5⟩ : ∃ c, c = c5 := ⟨_, rfl⟩
        rw [← hc4] at ho4 ⊢
        rw [← hc5] at ho5 ⊢
        have hAp : A.length = p := hp.symm
        have hcs : c0 ≤ j ∧ s0 ≤ sumTo g j := by
          rw [hA] at hcn; simp at hcn; omega
        obtain ⟨sf0, hsf0⟩ : ∃ x, x = floatOfInt .f64 (s0 : Int) := ⟨_, rfl⟩
        obtain ⟨sf1, hsf1⟩ : ∃ x, x = floatOfInt .f64 ((s0 + g j : Nat) : Int) := ⟨_, rfl⟩
        have ho4x : Hid (wx.ownsRow B 3 1 (.slice (some ⟨g4, 0, none⟩) (p + 1) c4') (p + 1) (cntV A ++ [.int .i64 (c0 : Int)])) := Lib.hid (by have := ho4.out; rw [cntV_append] at this; exact this)
        have ho5x : Hid (wx.ownsRow B 34 1 (.slice (some ⟨g5, 0, none⟩) (p + 1) c5') (p + 1) (sumV A ++ [.float .f64 (floatOfInt .f64 (s0 : Int))])) := Lib.hid (by have := ho5.out; rw [sumV_append] at this; exact this)
        have hbx := Lib.hid hj0.out.2
        have hs0 : s0 ≤ 200000 := by omega
        have hc0 : c0 ≤ 200 := by omega
        have hp200 : p ≤ 200 := by omega
        clear hord hcn hsb hsb2 hll hlb hj2 ho4 ho5 hp hlenj hA hge1 hj1 hc4 hc5 hcs c4 c5

        -- the last count and the last sum: one more, and the value more
        have kx4 : wx.cell? ⟨g4, p, none⟩ = some (.int .i64 (c0 : Int)) := by rw [World.ownsRow.cellAt ho4x.out p (by omega)]; simp [cntV_len, hAp]
        have fx4 : wx.frozen? ⟨g4, p, none⟩ = false := World.ownsRow.frozenAt ho4x.out p
        obtain ⟨ho4y, hgy⟩ := World.ownsRow.stored ho4x.out p (.int .i64 ((c0 : Int) + 1))
        have ho5y := ho5x.out.kept hgy (far_rows ho4x.out ho5x.out tI_F)
        have kx5 : (wx.setCell ⟨g4, p, none⟩ (.int .i64 ((c0 : Int) + 1))).cell? ⟨g5, p, none⟩ = some (.float .f64 sf0) := by rw [World.ownsRow.cellAt ho5y p (by omega), hsf0]; simp [sumV_len, hAp]
        have fx5 : (wx.setCell ⟨g4, p, none⟩ (.int .i64 ((c0 : Int) + 1))).frozen? ⟨g5, p, none⟩ = false := World.ownsRow.frozenAt ho5y p
        obtain ⟨ho5z, hgz⟩ := World.ownsRow.stored ho5y p (.float .f64 sf1)
        have ho4z := ho4y.kept hgz (far_rows ho5y ho4y (Ne.symm tI_F))
        have hbz : RowKit.Below B w2 ((wx.setCell ⟨g4, p, none⟩ (.int .i64 ((c0 : Int) + 1))).setCell ⟨g5, p, none⟩ (.float .f64 sf1)) := (hbx.out.setCell (p := ⟨g4, p, none⟩) hg4 _).setCell (p := ⟨g5, p, none⟩) hg5 _
        have hfin4 : Hid (((wx.setCell ⟨g4, p, none⟩ (.int .i64 ((c0 : Int) + 1))).setCell ⟨g5, p, none⟩ (.float .f64 sf1)).ownsRow B 3 1 (.slice (some ⟨g4, 0, none⟩) (p + 1) c4') (p + 1) (cntV (Bn.insAll g (j + 1)))) := Lib.hid (by
          rw [hnew, cntV_append]
          rw [set_last _ _ _ p (by rw [cntV_len, hAp])] at ho4z
          have e : cntV [(⟨c0 + 1, s0 + g j⟩ : Bn.B)] = [.int .i64 ((c0 : Int) + 1)] := by simp [cntV]
          rw [e]; exact ho4z)
        have hfin5 : Hid (((wx.setCell ⟨g4, p, none⟩ (.int .i64 ((c0 : Int) + 1))).setCell ⟨g5, p, none⟩ (.float .f64 sf1)).ownsRow B 34 1 (.slice (some ⟨g5, 0, none⟩) (p + 1) c5') (p + 1) (sumV (Bn.insAll g (j + 1)))) := Lib.hid (by
          rw [hnew, sumV_append]
          rw [set_last _ _ _ p (by rw [sumV_len, hAp])] at ho5z
          have e : sumV [(⟨c0 + 1, s0 + g j⟩ : Bn.B)] = [.float .f64 sf1] := by rw [hsf1]; simp [sumV]
          rw [e]; exact ho5z)
        have hlen : Hid ((Bn.insAll g (j + 1)).length = p + 1) := Lib.hid (by rw [hnew]; simp [hAp])
        have q := run_fadd' (x := sf0) (y := vb) (r := sf1) (by rw [hsf0, hsf1, hvb, FI_FX s0 (by omega), FI_FX (g j) (by omega), FI_FX (s0 + g j) (by omega), FX_add (by omega) (by omega)]; congr 2; omega)
        have Hbz := Lib.hid hbz
        have hpi : (p : Int) ≤ 200 := by omega
        have hp1 : (p : Int) < (p : Int) + 1 := by omega
        have hc0i : (c0 : Int) ≤ 200 := by omega
        have Hvb := Lib.hid hvb
        clear ho4y hgy ho5y ho5z hgz ho4z hbz hsf0 hsf1 hvb hnew hAp hg4 hg5 hs0 hc0 hp200
        go_wp2_with fail
        go_roundw
        case rel => exact ⟨j + 1, by go_num, by unfold lastB; rw [if_neg (by omega), Nat.add_sub_cancel, hlastE.out, Hvb.out], ⟨_, _, by rw [hlen.out]⟩, ⟨_, _, by rw [hlen.out]⟩, ⟨by omega, Hbz.out⟩, by rw [hlen.out]; exact hfin4, by rw [hlen.out]; exact hfin5⟩
        case measure => simp [intOf]; omega
    · obtain rfl : j = N := by have := hj0.out.1; omega
      go_wp2_with fail
      go_ret2
      have s2 := hS.out.2.2.size
      exact ⟨_, _, rfl, ownsRow_low ho4.out (by rw [HB.out]; exact s2), ownsRow_low ho5.out (by rw [HB.out]; exact s2), hS.out.2.2.trans (hj0.out.2.mono (by rw [HB.out]; exact s2))⟩

set_option maxRecDepth 100000 in
theorem different_nil (w : World) : Calls Tryz.prog 7 #[.slice none 0 0] w fun e w' => e = .returned (.tuple #[.slice none 0 0, .slice none 0 0]) ∧ RowKit.Below w.heap.size w w' := by
  have hso := Lib.hid (sorted_nil w)
  go_enter Tryz.func7, Tryz.ntmps7
  go_wp2_with (go_at_call 4; refine hso.out.mono ?_; rintro e w2 ⟨rfl, hb⟩; have Hb := Lib.hid hb; clear hb)
  refine wp_loop_rounds 1 ?_
  rw [rounds_succ]
  go_wp2_with fail
  go_ret2
  exact ⟨rfl, Hb.out⟩
end Go.Proofs.YthcgojhfbcgaiaaGreat
