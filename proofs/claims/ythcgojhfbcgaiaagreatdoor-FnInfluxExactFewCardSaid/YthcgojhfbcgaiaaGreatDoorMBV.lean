/- At compression 1000 and up to 30 values of weight 1 no centroid takes up another: each limit by the kernel. Plain lemmas. spec.Sorted, spec.Same on whole numbers; no centroid takes up another. Conditions: the rows lie in memory. -/
import Derived.Test.YthcgojhfbcgaiaaGreatDoorMBD
import Derived.Test.YthcgojhfbcgaiaaGreatDoorMBR
import Derived.Test.YthcgojhfbcgaiaaGreatDoorMBT
import Derived.Test.YthcgojhfbcgaiaaGreatDoorMBP

namespace Go.Proofs.YthcgojhfbcgaiaaGreatDoor

def rowNo (N : Nat) : Bool := (decide (N < 2) || leF (FI 2) (lim0 1000 N) == false) && (List.range N).all fun s => s == 0 || decide (N < s + 2) || leF (FI (s + 2)) (limN 1000 N s) == false
theorem rowNo_0 : rowNo 0 = true := by decide +kernel
theorem rowNo_1 : rowNo 1 = true := by decide +kernel
theorem rowNo_2 : rowNo 2 = true := by decide +kernel
theorem rowNo_3 : rowNo 3 = true := by decide +kernel
theorem rowNo_4 : rowNo 4 = true := by decide +kernel
theorem rowNo_5 : rowNo 5 = true := by decide +kernel
theorem rowNo_6 : rowNo 6 = true := by decide +kernel
theorem rowNo_7 : rowNo 7 = true := by decide +kernel
theorem rowNo_8 : rowNo 8 = true := by decide +kernel
theorem rowNo_9 : rowNo 9 = true := by decide +kernel
theorem rowNo_10 : rowNo 10 = true := by decide +kernel
theorem rowNo_11 : rowNo 11 = true := by decide +kernel
theorem rowNo_12 : rowNo 12 = true := by decide +kernel
theorem rowNo_13 : rowNo 13 = true := by decide +kernel
theorem rowNo_14 : rowNo 14 = true := by decide +kernel
theorem rowNo_15 : rowNo 15 = true := by decide +kernel
theorem rowNo_16 : rowNo 16 = true := by decide +kernel
theorem rowNo_17 : rowNo 17 = true := by decide +kernel
theorem rowNo_18 : rowNo 18 = true := by decide +kernel
theorem rowNo_19 : rowNo 19 = true := by decide +kernel
theorem rowNo_20 : rowNo 20 = true := by decide +kernel
theorem rowNo_21 : rowNo 21 = true := by decide +kernel
theorem rowNo_22 : rowNo 22 = true := by decide +kernel
theorem rowNo_23 : rowNo 23 = true := by decide +kernel
theorem rowNo_24 : rowNo 24 = true := by decide +kernel
theorem rowNo_25 : rowNo 25 = true := by decide +kernel
theorem rowNo_26 : rowNo 26 = true := by decide +kernel
theorem rowNo_27 : rowNo 27 = true := by decide +kernel
theorem rowNo_28 : rowNo 28 = true := by decide +kernel
theorem rowNo_29 : rowNo 29 = true := by decide +kernel
theorem rowNo_30 : rowNo 30 = true := by decide +kernel
theorem rowNo_all (N : Nat) (h : N ≤ 30) : rowNo N = true := by
  match N, h with
  | 0, _ => exact rowNo_0
  | 1, _ => exact rowNo_1
  | 2, _ => exact rowNo_2
  | 3, _ => exact rowNo_3
  | 4, _ => exact rowNo_4
  | 5, _ => exact rowNo_5
  | 6, _ => exact rowNo_6
  | 7, _ => exact rowNo_7
  | 8, _ => exact rowNo_8
  | 9, _ => exact rowNo_9
  | 10, _ => exact rowNo_10
  | 11, _ => exact rowNo_11
  | 12, _ => exact rowNo_12
  | 13, _ => exact rowNo_13
  | 14, _ => exact rowNo_14
  | 15, _ => exact rowNo_15
  | 16, _ => exact rowNo_16
  | 17, _ => exact rowNo_17
  | 18, _ => exact rowNo_18
  | 19, _ => exact rowNo_19
  | 20, _ => exact rowNo_20
  | 21, _ => exact rowNo_21
  | 22, _ => exact rowNo_22
  | 23, _ => exact rowNo_23
  | 24, _ => exact rowNo_24
  | 25, _ => exact rowNo_25
  | 26, _ => exact rowNo_26
  | 27, _ => exact rowNo_27
  | 28, _ => exact rowNo_28
  | 29, _ => exact rowNo_29
  | 30, _ => exact rowNo_30
  | n + 31, h => omega
theorem few_no0 {N : Nat} (h : N ≤ 30) (h2 : 2 ≤ N) : leF (FI 2) (lim0 1000 N) = false := by
  have := rowNo_all N h
  unfold rowNo at this
  rw [Bool.and_eq_true, Bool.or_eq_true, beq_iff_eq, decide_eq_true_eq] at this
  rcases this.1 with h3 | h3
  · omega
  · exact h3
theorem few_noN {N s : Nat} (h : N ≤ 30) (h1 : 1 ≤ s) (h2 : s + 2 ≤ N) : leF (FI (s + 2)) (limN 1000 N s) = false := by
  have := rowNo_all N h
  unfold rowNo at this
  rw [Bool.and_eq_true, List.all_eq_true] at this
  have h3 := this.2 s (by simp; omega)
  rw [Bool.or_eq_true, Bool.or_eq_true, beq_iff_eq, beq_iff_eq, decide_eq_true_eq] at h3
  rcases h3 with (h3 | h3) | h3
  · omega
  · omega
  · exact h3
end Go.Proofs.YthcgojhfbcgaiaaGreatDoor

namespace Go.Proofs.YthcgojhfbcgaiaaGreatDoor
open Go.RowKit Go.Sort Go.Proofs

theorem perm_map_inv {α β : Type} (f : α → β) : ∀ {ys zs : List β}, ys.Perm zs → ∀ l : List α, zs = l.map f → ∃ l' : List α, l'.Perm l ∧ ys = l'.map f := by
  intro ys zs h
  induction h with
  | nil => intro l hl; exact ⟨l, .refl _, hl⟩
  | cons x h ih =>
    intro l hl
    cases l with
    | nil => simp at hl
    | cons a l =>
      simp only [List.map_cons, List.cons.injEq] at hl
      obtain ⟨l', h1, h2⟩ := ih l hl.2
      exact ⟨a :: l', h1.cons a, by rw [h2, hl.1]; simp⟩
  | swap x y t =>
    intro l hl
    match l, hl with
    | a :: b :: l, hl =>
      simp only [List.map_cons, List.cons.injEq] at hl
      exact ⟨b :: a :: l, .swap _ _ _, by rw [hl.1, hl.2.1, hl.2.2]; simp⟩
  | trans h1 h2 ih1 ih2 =>
    intro l hl
    obtain ⟨l2, p2, e2⟩ := ih2 l hl
    obtain ⟨l1, p1, e1⟩ := ih1 l2 e2
    exact ⟨l1, p1.trans p2, e1⟩

theorem fN_mono {a b : Nat} (ha : a < 2 ^ 40) (hb : b < 2 ^ 40) (h : (fN a).b ≤ (fN b).b) : a ≤ b := by
  rw [fN_b a (by omega), fN_b b (by omega), FI_FX a (by omega), FI_FX b (by omega)] at h
  have := (FP_le (p := 4) (q := 4) (j := 16 * a) (l := 16 * b) (by omega) (by omega) (by omega) (by omega)).1 (by rw [← FX_FP, ← FX_FP]; exact h)
  omega

/-- spec.Sorted on whole numbers. -/
theorem sortedN_calls (V cap N : Nat) (f : Nat → Nat) (w : World) (hf : FloatsAt w V N (fun i => fN (f i))) (hV : V < w.heap.size) (hpos : 1 ≤ N) (hN : N ≤ 100000) (hb : ∀ i, f i < 2 ^ 40) :
    Calls Tryz.prog 16 #[.slice (some ⟨V, 0, none⟩) N cap] w fun e w' => ∃ (V' cap' : Nat) (bs : List Nat), e = .returned (.slice (some ⟨V', 0, none⟩) N cap') ∧
      bs.Perm ((List.range N).map f) ∧ bs.Pairwise (· ≤ ·) ∧ FloatsAt w' V' N (fun i => fN bs[i]!) ∧ w.heap.size ≤ V' ∧ V' < w'.heap.size ∧ RowKit.Below w.heap.size w w' := by
  refine (sorted_calls V cap N _ w hf hV hpos hN).mono ?_
  rintro e w' ⟨V', cap', es, rfl, h1, h2, h3, h4, h5, h6⟩
  obtain ⟨bs, p1, rfl⟩ := perm_map_inv fN h1 ((List.range N).map f) (by rw [List.map_map]; rfl)
  have hbl : bs.length = N := by rw [p1.length_eq]; simp
  refine ⟨V', cap', bs, rfl, p1, ?_, fun i hi => (h3 i hi).trans ?_, h4, h5, h6⟩
  · rw [List.map_map, List.pairwise_map] at h2
    refine h2.imp_of_mem fun {a b} ha hb' h => ?_
    have ma := p1.subset ha
    have mb := p1.subset hb'
    simp at ma mb
    obtain ⟨i, _, rfl⟩ := ma
    obtain ⟨j, _, rfl⟩ := mb
    exact fN_mono (hb i) (hb j) h
  · show some (Value.float .f64 (bs.map fN)[i]!.b) = some (.float .f64 (fN bs[i]!).b)
    rw [getElem!_pos (bs.map fN) i (by simp; omega), getElem!_pos bs i (by omega)]; simp

set_option maxRecDepth 100000 in
set_option maxHeartbeats 1000000 in
theorem sorted_nil (w : World) : Calls Tryz.prog 16 #[.slice none 0 0] w fun e w' => e = .returned (.slice none 0 0) ∧ RowKit.Below w.heap.size w w' := by
  have hcl := Lib.hid (AnyE.slices_Clone_nil Tryz.laysSlE041_f27 0 0 w)
  go_enter Tryz.func16, Tryz.ntmps16
  go_wp2_with (first | (go_at_call 27; refine hcl.out.mono ?_; rintro e w1 ⟨rfl, rfl⟩) | go_in)
  refine wp_loop_rounds 1 ?_
  rw [rounds_succ]
  go_wp2_with go_in
  refine wp_loop_rounds 1 ?_
  rw [rounds_succ]
  go_wp2_with go_in
  go_end0
  go_wp2_with go_in
  refine bodyPost_ret (results_none rfl _ _ _) rfl ?_
  go_wp2_with go_in
  go_end0
  go_wp2_with go_in
  go_ret
  exact ⟨rfl, RowKit.Below.refl _ _⟩

set_option maxRecDepth 100000 in
theorem close_calls (s : Nat) (hs : s < 2 ^ 40) (w : World) : Calls Tryz.prog 26 #[.float .f64 (floatOfInt .f64 (s : Int)), .float .f64 (floatOfInt .f64 (s : Int))] w fun e w' => e = .returned (.bool true) ∧ w = w' := by
  obtain ⟨x, hx⟩ : ∃ x, x = floatOfInt .f64 (s : Int) := ⟨_, rfl⟩
  have q := rs (x := x) (y := x) (r := 0) (by rw [hx, FI_FX s (by omega), FX_sub (by omega) (by omega), Int.sub_self, FX_zero])
  have ho : (FloatKind.f64.format.order 0 4517329193108106637 == some .lt) = true := by
    show (Ieee.double.order 0 4517329193108106637 == some .lt) = true
    rw [order_pos (by omega) (by omega), Nat.compare_eq_lt.2 (by omega)]; rfl
  rw [← hx]
  clear hx
  go_enter Tryz.func26, Tryz.ntmps26
  go_wp2_with fail
  go_ret
  exact ⟨rfl, rfl⟩

set_option maxRecDepth 100000 in
set_option maxHeartbeats 400000 in
theorem equalFunc_calls (n c1 c2 : Nat) (a1 a2 : Option Addr) (f : Nat → Nat) (w : World) (hn : n ≤ 1000) (hf : ∀ i, f i < 2 ^ 40)
    (h1 : 0 < n → ∃ g, a1 = some ⟨g, 0, none⟩ ∧ ∀ i, i < n → w.cell? ⟨g, i, none⟩ = some (.float .f64 (floatOfInt .f64 (f i : Int)))) (h2 : 0 < n → ∃ g, a2 = some ⟨g, 0, none⟩ ∧ ∀ i, i < n → w.cell? ⟨g, i, none⟩ = some (.float .f64 (floatOfInt .f64 (f i : Int)))) :
    Calls Tryz.prog 25 #[.slice a1 n c1, .slice a2 n c2, .func (.func 26) #[] #[]] w fun e w' => e = .returned (.bool true) ∧ w = w' := by
  have H1 := Lib.hid h1
  have H2 := Lib.hid h2
  have hcl := Lib.hid (fun i w => close_calls (f i) (hf i) w)
  have hni : (n : Int) ≤ 1000 := by omega
  clear h1 h2 hn hf
  go_enter Tryz.func25, Tryz.ntmps25
  go_wp2_with fail
  go_loop [17] (fun s17 => ∃ k : Nat, k ≤ n ∧ s17 = .int .i64 k) (fun s17 => n - (intOf s17).toNat)
  case atStart => exact ⟨0, Nat.zero_le _, rfl⟩
  case round =>
    obtain ⟨k, hk, rfl⟩ := hrel
    rcases Nat.lt_or_ge k n with hlt | hge
    · obtain ⟨g1, rfl, e1⟩ := H1.out (by omega)
      obtain ⟨g2, rfl, e2⟩ := H2.out (by omega)
      have k1 := e1 k hlt
      have k2 := e2 k hlt
      have hc := hcl.out k
      obtain ⟨x, hx⟩ : ∃ x, x = floatOfInt .f64 (f k : Int) := ⟨_, rfl⟩
      rw [← hx] at k1 k2 hc
      have Hc := Lib.hid hc
      have hki : (k : Int) < (n : Int) := by omega
      clear e1 e2 hx hc
      go_wp2_with (go_at_call 26; refine (Hc.out _).mono ?_; rintro e w1 ⟨rfl, rfl⟩)
      go_round
      case rel => exact ⟨k + 1, by omega, by go_num⟩
      case measure => simp [intOf]; omega
    · obtain rfl : k = n := by omega
      go_wp2_with fail
      go_ret
      exact ⟨rfl, rfl⟩

set_option maxRecDepth 100000 in
theorem same_calls (n c1 c2 : Nat) (a1 a2 : Option Addr) (f : Nat → Nat) (w : World) (hn : n ≤ 1000) (hf : ∀ i, f i < 2 ^ 40)
    (h1 : 0 < n → ∃ g, a1 = some ⟨g, 0, none⟩ ∧ ∀ i, i < n → w.cell? ⟨g, i, none⟩ = some (.float .f64 (floatOfInt .f64 (f i : Int)))) (h2 : 0 < n → ∃ g, a2 = some ⟨g, 0, none⟩ ∧ ∀ i, i < n → w.cell? ⟨g, i, none⟩ = some (.float .f64 (floatOfInt .f64 (f i : Int)))) :
    Calls Tryz.prog 15 #[.slice a1 n c1, .slice a2 n c2] w fun e w' => e = .returned (.bool true) ∧ w = w' := by
  have he := Lib.hid (equalFunc_calls n c1 c2 a1 a2 f w hn hf h1 h2)
  clear h1 h2 hn hf
  go_enter Tryz.func15, Tryz.ntmps15
  go_wp2_with (go_at_call 25; refine he.out.mono ?_; rintro e w1 ⟨rfl, rfl⟩)
  go_ret
  exact ⟨rfl, rfl⟩


/-- spec.Values, the row told apart, the empty one too. -/
theorem values_few (a : Option Addr) (len cap most : Nat) (z : Nat → Nat) (hm1 : 1 ≤ most) (hmost : most ≤ 100000) (hz : ∀ j, z j < 256) (w : World) (hlen : len ≤ maxLen)
    (hc : 0 < len → ∃ b off, a = some ⟨b, off, none⟩ ∧ b < w.heap.size ∧ ∀ j, j < len → w.cell? ⟨b, off + j, none⟩ = some (.int .u8 (z j))) :
    Calls Tryz.prog 6 #[.slice a len cap, .int .i64 most] w fun r w' => ∃ oa oc, r = .returned (.slice oa (min len most) oc) ∧
      Hid (RowKit.Below w.heap.size w w' ∧ (1 ≤ min len most → ∃ V, oa = some ⟨V, 0, none⟩ ∧ w.heap.size ≤ V ∧ V < w'.heap.size ∧ FloatsAt w' V (min len most) (fun i => fN (vInt z i))) ∧ (min len most = 0 → oa = none ∧ oc = 0)) := by
  rcases Nat.eq_zero_or_pos len with h0 | hpos
  · subst h0
    clear hc hlen hz
    go_enter Tryz.func6, Tryz.ntmps6
    go_wp2_with fail
    refine wp_loop_rounds 1 ?_
    rw [rounds_succ]
    go_wp2_with fail
    go_ret
    exact ⟨none, 0, (by rw [Nat.zero_min]; rfl), Lib.hid ⟨RowKit.Below.refl _ _, fun h => absurd h (by rw [Nat.zero_min]; omega), fun _ => ⟨rfl, rfl⟩⟩⟩
  · refine (values_calls a len cap most z hmost hz w hlen hc).mono ?_
    rintro r w' ⟨v, rfl, ho, hb⟩
    rcases floats_of_own (val := fun i => fN (vInt z i)) ho with ⟨rfl, h0⟩ | ⟨V, cap', rfl, h1, _, h3, h4, h5, _⟩
    · exact absurd h0 (by omega)
    · exact ⟨_, _, rfl, ⟨hb, fun _ => ⟨V, rfl, h3, h4, h5⟩, fun h => absurd h (by omega)⟩⟩

theorem mergeL_few {N : Nat} (hN : N ≤ 30) : ∀ (r : List Cen) (cur : Cen) (lim s : Nat), (∀ x ∈ r, x.w = 1) → 1 ≤ s → s + r.length = N → (r ≠ [] → leF (FI (s + 1)) lim = false) → mergeL (limN 1000 N) lim s cur r = cur :: r
  | [], _, _, _, _, _, _, _ => rfl
  | c :: r, cur, lim, s, hw, hs, hl, h0 => by
    have hc : c.w = 1 := hw c (by simp)
    have h1 := h0 (by simp)
    unfold mergeL
    rw [hc, h1, if_neg (by simp)]
    rw [mergeL_few hN r c (limN 1000 N s) (s + 1) (fun x hx => hw x (by simp [hx])) (by omega) (by simp at hl; omega) (fun hr => few_noN hN hs (by have := List.length_pos_iff.2 hr; simp at hl; omega))]
theorem FI_le_iff {a b : Nat} (ha : a < 2 ^ 49) (hb : b < 2 ^ 49) (h : FI a ≤ FI b) : a ≤ b := by
  have := rungVal_le.2 h
  rw [rungVal_FI a ha, rungVal_FI b hb] at this
  exact Nat.le_of_mul_le_mul_right this E_pos
theorem lsOf_one_wt (f : Nat → Nat) (k : Nat) : wt (lsOf f (fun _ => 1) k) = k := by
  induction k with
  | zero => rfl
  | succ k ih => rw [lsOf_succ, wt_append, ih, wt_cons, wt_nil]
/-- The centroids of few values: the values in order. -/
theorem left_few {N lo hi : Nat} {f : Nat → Nat} {P' : List Cen} (hN : N ≤ 30) (h1 : 1 ≤ N) (hf : ∀ i, f i < 1000) (h : Left 1000 lo hi (lsOf f (fun _ => 1) N) P') :
    ∃ bs : List Nat, bs.Perm ((List.range N).map f) ∧ bs.Pairwise (· ≤ ·) ∧ P'.map (·.m) = bs.map (fun x => FI x) := by
  obtain ⟨y0, yr, p1, p2, p3⟩ := h.2 (by rw [lsOf_len]; omega) (fun e => by have := lsOf_len f (fun _ => 1) N; rw [e] at this; simp at this; omega)
  rw [lsOf_one_wt] at p3
  have hw : ∀ x ∈ y0 :: yr, x.w = 1 := fun x hx => by
    have := p1.subset hx
    simp only [lsOf, List.mem_map] at this
    obtain ⟨i, _, rfl⟩ := this
    rfl
  have hlen : (y0 :: yr).length = N := by rw [p1.length_eq, lsOf_len]
  have h0 : y0.w = 1 := hw y0 (by simp)
  rw [h0, mergeL_few hN yr y0 _ 1 (fun x hx => hw x (by simp [hx])) (Nat.le_refl _) (by simp at hlen; omega) (fun hr => few_no0 hN (by have := List.length_pos_iff.2 hr; simp at hlen; omega))] at p3
  have q1 : ((y0 :: yr).map (·.m)).Perm (((List.range N).map f).map (fun x => FI x)) := by
    have := p1.map (·.m)
    rw [lsOf, List.map_map] at this
    rw [List.map_map]; exact this
  obtain ⟨bs, b1, b2⟩ := perm_map_inv (fun x => FI x) q1 ((List.range N).map f) rfl
  refine ⟨bs, b1, ?_, by rw [p3]; exact b2⟩
  have q2 : ((y0 :: yr).map (·.m)).Pairwise (· ≤ ·) := List.pairwise_map.2 p2
  rw [b2, List.pairwise_map] at q2
  refine q2.imp_of_mem fun {a b} ha hb h => ?_
  have ma := b1.subset ha
  have mb := b1.subset hb
  simp at ma mb
  obtain ⟨i, _, rfl⟩ := ma
  obtain ⟨j, _, rfl⟩ := mb
  exact FI_le_iff (by have := hf i; omega) (by have := hf j; omega) h
end Go.Proofs.YthcgojhfbcgaiaaGreatDoor
