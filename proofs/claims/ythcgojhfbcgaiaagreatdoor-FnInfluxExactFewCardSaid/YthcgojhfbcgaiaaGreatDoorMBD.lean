/- What holds of the digest between calls; Min and Max at its first merge. Plain lemmas. A new digest. Conditions: the compression is a whole number from 1 to 1000. NewWithCompression; process, whether it merges or not. Conditions: the compression; the digest lies in memory. -/
import Derived.Test.YthcgojhfbcgaiaaGreatDoorMBC

namespace Go.Proofs.YthcgojhfbcgaiaaGreatDoor
open Go.RowKit Go.Sort Go.Proofs Ieee

def maxF : Nat := 9218868437227405311
def minF : Nat := 18442240474082181119
/-- What holds of the digest when it was given the centroids L. -/
structure Inv (lo hi : Nat) (P U : List Cen) (X : List Nat) (mn mx : Nat) (L : List Cen) : Prop where
  el : ∀ x ∈ U ++ P, lo ≤ x.m ∧ x.m ≤ hi ∧ 1 ≤ x.w
  tw : wt U + wt P = wt L
  so : P.Pairwise (fun a b => a.m ≤ b.m)
  len : U.length + P.length ≤ L.length
  mm : (P = [] ∧ mn = maxF ∧ mx = minF) ∨ (P ≠ [] ∧ X = cumX P ∧ lo ≤ mn ∧ mn ≤ fstM P ∧ lstM P ≤ mx ∧ mx ≤ hi)
  non : L ≠ [] → U ++ P ≠ []

theorem minR_max {y : Nat} (hy : y < 2047 * 2 ^ 52) : minR maxF y = y := by
  have h1 : maxF < 2047 * 2 ^ 52 := by unfold maxF; omega
  rw [minR_pos h1 hy]
  unfold maxF
  omega
theorem maxR_min {y : Nat} (hy : y < 2047 * 2 ^ 52) : maxR minF y = y := by
  obtain ⟨n, l, h3, h4, _⟩ := read_pos hy
  have hx : (9218868437227405311 : Nat) < 2047 * 2 ^ 52 := by omega
  obtain ⟨m, k, h1, h2, _⟩ := read_pos hx
  have e : minF = 9218868437227405311 ^^^ 2 ^ 63 := by decide
  have h1' : double.read minF = .number true m ((k : Int) - 1074) := by rw [e, read_neg, h1]; rfl
  have d1 : FloatKind.f64.decode minF = .number true m ((k : Int) - 1074) := h1'
  have d2 : FloatKind.f64.decode y = .number false n ((l : Int) - 1074) := h3
  have hm : m ≠ 0 := fun h => by
    rw [h, Nat.zero_mul] at h2
    have := rungVal_pos (r := 9218868437227405311) (by omega)
    omega
  have ho : (Datum.number true m ((k : Int) - 1074)).order (Datum.number false n ((l : Int) - 1074)) = some .lt := by
    simp only [Datum.order]
    obtain ⟨c, hc⟩ : ∃ c : Nat, c = min k l := ⟨_, rfl⟩
    rw [show min ((k : Int) - 1074) ((l : Int) - 1074) = (c : Int) - 1074 by omega, show ((k : Int) - 1074 - ((c : Int) - 1074)).toNat = k - c by omega,
      show ((l : Int) - 1074 - ((c : Int) - 1074)).toNat = l - c by omega, signed_false, signed_true]
    have hp : 0 < m * 2 ^ (k - c) := Nat.mul_pos (Nat.pos_of_ne_zero hm) (Nat.two_pow_pos _)
    rw [Int.compare_eq_lt.2 (by omega)]
  unfold maxR
  simp only [d1, d2]
  have e1 : ((Datum.number true m ((k : Int) - 1074) == Datum.infinity false) || (Datum.number false n ((l : Int) - 1074) == Datum.infinity false)) = false := by
    rw [Bool.or_eq_false_iff]; constructor <;> (rw [beq_eq_false_iff_ne]; intro h; cases h)
  have e2 : ((Datum.number true m ((k : Int) - 1074)).isNaN || (Datum.number false n ((l : Int) - 1074)).isNaN) = false := rfl
  have e3 : (Datum.number true m ((k : Int) - 1074)).isZero = false := by
    cases m with
    | zero => exact absurd rfl hm
    | succ m => rfl
  rw [e1, e2, e3, ho]
  simp

theorem fstM_cons (a : Cen) (L : List Cen) : fstM (a :: L) = a.m := rfl
theorem fstM_mem {L : List Cen} (h : L ≠ []) : ∃ x ∈ L, fstM L = x.m := by
  cases L with
  | nil => exact absurd rfl h
  | cons a L => exact ⟨a, by simp, rfl⟩
theorem lstM_mem {L : List Cen} (h : L ≠ []) : ∃ x ∈ L, lstM L = x.m := by
  have hl : 0 < L.length := List.length_pos_iff.2 h
  refine ⟨L[L.length - 1]'(by omega), List.getElem_mem _, ?_⟩
  rw [lstM, getElem!_pos L (L.length - 1) (by omega)]

/-- A merge keeps what holds. -/
theorem Inv.merged {lo hi : Nat} {P U : List Cen} {X : List Nat} {mn mx : Nat} {L : List Cen} (h : Inv lo hi P U X mn mx L) (hhi : hi ≤ FI 1000) (hW : wt L ≤ 2 ^ 20)
    {y0 : Cen} {yr P' : List Cen} (hp : (y0 :: yr).Perm (U ++ P)) (hs : (y0 :: yr).Pairwise (fun a b => a.m ≤ b.m)) {NL : Nat → Nat} {l0 : Nat} (hP : P' = mergeL NL l0 y0.w y0 yr) (hlen : P'.length ≤ (y0 :: yr).length) :
    Inv lo hi P' [] (cumX P') (minR mn (fstM P')) (maxR mx (lstM P')) L := by
  have hI := FI_in 1000 (by omega)
  have hrow : RowC lo hi (y0 :: yr) := ⟨hs, fun x hx => h.el x (hp.mem_iff.1 hx)⟩
  have hw : wt (y0 :: yr) = wt L := by rw [wt_perm hp, wt_append, h.tw]
  obtain ⟨b1, b2, b3, b4⟩ := mergeL_row hhi NL yr y0 l0 y0.w hrow (by rw [hw]; exact hW)
  rw [← hP] at b1 b2 b3 b4
  obtain ⟨f, hf, ef⟩ := fstM_mem b4
  obtain ⟨t, ht, et⟩ := lstM_mem b4
  have kf := b1.el f hf
  have kt := b1.el t ht
  refine ⟨fun x hx => b1.el x (by simpa using hx), by rw [wt_nil, b2, hw, Nat.zero_add], b1.pw, ?_, .inr ⟨b4, rfl, ?_⟩, fun _ => by simpa using b4⟩
  · have := hp.length_eq
    rw [List.length_append] at this
    have := h.len
    simp only [List.length_nil]
    omega
  · rw [ef, et]
    rcases h.mm with ⟨_, e1, e2⟩ | ⟨q1, _, q3, q4, q5, q6⟩
    · rw [e1, e2, minR_max (by omega), maxR_min (by omega)]
      exact ⟨kf.1, Nat.le_refl _, Nat.le_refl _, kt.2.1⟩
    · obtain ⟨f', hf', ef'⟩ := fstM_mem q1
      obtain ⟨t', ht', et'⟩ := lstM_mem q1
      have kf' := h.el f' (by simp [hf'])
      have kt' := h.el t' (by simp [ht'])
      have hmx : mx < 2047 * 2 ^ 52 := by omega
      have hmn : mn < 2047 * 2 ^ 52 := by omega
      rw [minR_pos hmn (by omega), maxR_pos hmx (by omega)]
      refine ⟨?_, ?_, ?_, ?_⟩ <;> omega
theorem mergeL_len (NL : Nat → Nat) : ∀ (r : List Cen) (cur : Cen) (lim s : Nat), (mergeL NL lim s cur r).length ≤ (cur :: r).length
  | [], _, _, _ => by simp [mergeL]
  | c :: r, cur, lim, s => by
    unfold mergeL
    split
    · have := mergeL_len NL r (addC cur c) lim (s + c.w)
      simp at *; omega
    · have := mergeL_len NL r c (NL s) (s + c.w)
      simp at *; omega
end Go.Proofs.YthcgojhfbcgaiaaGreatDoor

namespace Go.Proofs.YthcgojhfbcgaiaaGreatDoor
open Go.RowKit Go.Sort Go.Proofs

theorem FI_mul (a b : Nat) (ha : a < 2 ^ 20) (hb : b < 2 ^ 20) : Ieee.double.mul (FI a) (FI b) = some (FI (a * b)) := by
  have hab : a * b < 2 ^ 40 := Nat.lt_of_lt_of_le (Nat.mul_lt_mul'' ha hb) (by omega)
  show Ieee.double.mul (floatOfInt .f64 (a : Int)) (floatOfInt .f64 (b : Int)) = some (floatOfInt .f64 ((a * b : Nat) : Int))
  rw [FI_FX a (by omega), FI_FX b (by omega), FI_FX (a * b) (by omega)]
  exact FX_mul (by omega) (by omega) (by omega) (by rw [Nat.mul_mul_mul_comm, Nat.mul_assoc 16 16])
theorem above_FI {n : Nat} (h : n < 2 ^ 40) : aboveOf (FI n) = n := by
  show aboveOf (floatOfInt .f64 (n : Int)) = n
  rw [FI_FX n (by omega), aboveOf_FX _ (by omega)]; omega
theorem whole_FI {n : Nat} (h : n < 2 ^ 40) : wholeOf (FI n) = n := by
  show wholeOf (floatOfInt .f64 (n : Int)) = n
  rw [FI_FX n (by omega), wholeOf_FX _ (by omega)]; omega
theorem two_FI : (4611686018427387904 : Nat) = FI 2 := Nat.le_antisymm (of_decide_eq_true (by decide +kernel)) (of_decide_eq_true (by decide +kernel))
theorem eight_FI : (4620693217682128896 : Nat) = FI 8 := Nat.le_antisymm (of_decide_eq_true (by decide +kernel)) (of_decide_eq_true (by decide +kernel))
theorem ceil_FI {c : Nat} (hc : c ≤ 1000) (w : World) : Calls Tryz.prog 46 #[.float .f64 (FI c)] w fun e w' => e = .returned (.float .f64 (FI c)) ∧ w = w' := by
  have := ceil_calls (FI c) (FI_in c (by omega)) w
  rw [above_FI (by omega)] at this
  exact this
set_option maxRecDepth 100000 in
theorem pSize_calls {c : Nat} (hc : c ≤ 1000) (w : World) : Calls Tryz.prog 29 #[.int .i64 0, .float .f64 (FI c)] w fun e w' => e = .returned (.int .i64 ((2 * c : Nat) : Int)) ∧ w' = w := by
  have h1 := fun w => Lib.hid (ceil_FI hc w)
  have e1 := FI_mul 2 c (by omega) (by omega)
  rw [← two_FI] at e1
  have f1 := rm e1
  have hcv := fun w => run_convert_float_int (P := Tryz.prog) w 29 3 .f64 .i64 (FI (2 * c)) ((2 * c : Nat) : Int) (by kernel_rfl) Tryz.underlying3 (by
    have := toInt_pos (FI (2 * c)) (FI_in _ (by omega)) (by rw [whole_FI (by omega)]; omega)
    rw [whole_FI (by omega)] at this
    exact this)
  generalize FI (2 * c) = X at *
  generalize ((2 * c : Nat) : Int) = Y at *
  generalize FI c = C at *
  clear e1 hc
  go_enter Tryz.func29, Tryz.ntmps29
  go_wp2_with (go_at_call 46; refine (h1 _).out.mono ?_; rintro e w2 ⟨rfl, rfl⟩)
  go_ret
  exact ⟨rfl, rfl⟩
set_option maxRecDepth 100000 in
theorem uSize_calls {c : Nat} (hc : c ≤ 1000) (w : World) : Calls Tryz.prog 30 #[.int .i64 0, .float .f64 (FI c)] w fun e w' => e = .returned (.int .i64 ((8 * c : Nat) : Int)) ∧ w' = w := by
  have h1 := fun w => Lib.hid (ceil_FI hc w)
  have e1 := FI_mul 8 c (by omega) (by omega)
  rw [← eight_FI] at e1
  have f1 := rm e1
  have hcv := fun w => run_convert_float_int (P := Tryz.prog) w 29 3 .f64 .i64 (FI (8 * c)) ((8 * c : Nat) : Int) (by kernel_rfl) Tryz.underlying3 (by
    have := toInt_pos (FI (8 * c)) (FI_in _ (by omega)) (by rw [whole_FI (by omega)]; omega)
    rw [whole_FI (by omega)] at this
    exact this)
  generalize FI (8 * c) = X at *
  generalize ((8 * c : Nat) : Int) = Y at *
  generalize FI c = C at *
  clear e1 hc
  go_enter Tryz.func30, Tryz.ntmps30
  go_wp2_with (go_at_call 46; refine (h1 _).out.mono ?_; rintro e w2 ⟨rfl, rfl⟩)
  go_ret
  exact ⟨rfl, rfl⟩

set_option maxRecDepth 100000 in
set_option maxHeartbeats 1000000 in
theorem reset_calls {w : World} {g cP cU bP bU : Nat} {v6 v7 v8 v9 : Value} {C mp mu : Value}
    (h : w.heap[g]? = some (.cells #[C, mp, mu, .slice (some ⟨bP, 0, none⟩) 0 cP, .slice (some ⟨bU, 0, none⟩) 0 cU, .slice none 0 0, v6, v7, v8, v9] 58)) :
    Calls Tryz.prog 31 #[.pointer (some ⟨g, 0, none⟩)] w fun e w' => e = .returned (.tuple #[]) ∧
      w' = (((((((w.setCell ⟨g, 3, none⟩ (.slice (some ⟨bP, 0, none⟩) 0 cP)).setCell ⟨g, 4, none⟩ (.slice (some ⟨bU, 0, none⟩) 0 cU)).setCell ⟨g, 5, none⟩ (.slice none 0 0)).setCell ⟨g, 6, none⟩ (.float .f64 0)).setCell ⟨g, 7, none⟩ (.float .f64 0)).setCell ⟨g, 8, none⟩ (.float .f64 9218868437227405311)).setCell ⟨g, 9, none⟩ (.float .f64 18442240474082181119)) := by
  have c3 := cell_of h (i := 3) rfl
  have c4 := cell_of h (i := 4) rfl
  have c5 := cell_of h (i := 5) rfl
  have c6 := cell_of h (i := 6) rfl
  have c7 := cell_of h (i := 7) rfl
  have c8 := cell_of h (i := 8) rfl
  have c9 := cell_of h (i := 9) rfl
  have z3 := free_of h (i := 3)
  have z4 := free_of h (i := 4)
  have z5 := free_of h (i := 5)
  have z6 := free_of h (i := 6)
  have z7 := free_of h (i := 7)
  have z8 := free_of h (i := 8)
  have z9 := free_of h (i := 9)
  clear h
  go_enter Tryz.func31, Tryz.ntmps31
  go_wp2_with fail
  go_end0
  exact ⟨rfl, rfl⟩
end Go.Proofs.YthcgojhfbcgaiaaGreatDoor

namespace Go.Proofs.YthcgojhfbcgaiaaGreatDoor
open Go.RowKit Go.Sort Go.Proofs

def emptyD (c : Nat) (a b : Int) (v3 v4 : Value) : Array Value := #[.float .f64 (FI c), .int .i64 a, .int .i64 b, v3, v4, .slice none 0 0, .float .f64 0, .float .f64 0, .float .f64 0, .float .f64 0]

set_option maxRecDepth 100000 in
set_option maxHeartbeats 2000000 in
theorem new_calls {c : Nat} (hc : 1 ≤ c) (hc2 : c ≤ 1000) (w : World) : Calls Tryz.prog 17 #[.float .f64 (FI c)] w fun e w' => e = .returned (.pointer (some ⟨w.heap.size, 0, none⟩)) ∧
    Hid (∃ l, PM [] w w' w.heap.size w.heap.size c l [] [] [] 0 0 maxF minF) := by
  obtain ⟨G, hG⟩ : ∃ G, G = w.heap.size := ⟨_, rfl⟩
  obtain ⟨W1, hW1⟩ : ∃ W1 : World, W1 = w.alloc (.cells #[.float .f64 (FI c), .int .i64 0, .int .i64 0, .slice none 0 0, .slice none 0 0, .slice none 0 0, .float .f64 0, .float .f64 0, .float .f64 0, .float .f64 0] 58) := ⟨_, rfl⟩
  have h1 : W1.heap[G]? = some (.cells (emptyD c 0 0 (.slice none 0 0) (.slice none 0 0)) 58) := by rw [hW1, hG]; exact hp_at _ _ _ rfl
  have hB1 : RowKit.Below G w W1 := by rw [hW1, hG]; exact (RowKit.Below.refl _ _).alloc (Nat.le_refl _) _
  have hs1 : W1.heap.size = G + 1 := by rw [hW1, hG]; simp
  have hp := fun w => Lib.hid (pSize_calls hc2 w)
  have hu := fun w => Lib.hid (uSize_calls hc2 w)
  obtain ⟨W2, hW2⟩ : ∃ W2 : World, W2 = (W1.setCell ⟨G, 1, none⟩ (.int .i64 ((2 * c : Nat) : Int))).setCell ⟨G, 2, none⟩ (.int .i64 ((8 * c : Nat) : Int)) := ⟨_, rfl⟩
  have h2 : W2.heap[G]? = some (.cells (emptyD c ((2 * c : Nat) : Int) ((8 * c : Nat) : Int) (.slice none 0 0) (.slice none 0 0)) 58) := by rw [hW2]; exact at_set (at_set h1 1 _) 2 _
  have hB2 : RowKit.Below G w W2 := by rw [hW2]; exact (hB1.setCell (p := ⟨G, 1, none⟩) (Nat.le_refl _) _).setCell (p := ⟨G, 2, none⟩) (Nat.le_refl _) _
  have hs2 : W2.heap.size = G + 1 := by rw [hW2]; simp [World.setCell, hs1]
  have a0 : W1.cell? ⟨G, 0, none⟩ = some (.float .f64 (FI c)) := cell_of h1 rfl
  have a1 : W1.cell? ⟨G, 1, none⟩ = some (.int .i64 0) := cell_of h1 rfl
  have a2 : W1.cell? ⟨G, 2, none⟩ = some (.int .i64 0) := cell_of h1 rfl
  have f1 : W1.frozen? ⟨G, 1, none⟩ = false := free_of h1
  have f2 : W1.frozen? ⟨G, 2, none⟩ = false := free_of h1
  have b1 : W2.cell? ⟨G, 1, none⟩ = some (.int .i64 ((2 * c : Nat) : Int)) := cell_of h2 rfl
  obtain ⟨i0, hi, hz0, hz1, hz2⟩ := info_parts info_Cen
  obtain ⟨p, hpe⟩ : ∃ p, p = 2 * c := ⟨_, rfl⟩
  obtain ⟨u, hue⟩ : ∃ u, u = 8 * c := ⟨_, rfl⟩
  rw [← hpe] at b1 hW2 h2
  rw [← hue] at hW2 h2
  simp only [← hpe] at hp
  simp only [← hue] at hu
  -- the first row
  have Y1 : Hid (∀ w3 : World, w3.ownsRow G 49 2 (.slice (some ⟨W2.heap.size, 0, none⟩) 0 p) 0 [] → W2.grownBy w3 none →
      w3.cell? ⟨G, 3, none⟩ = some (.slice none 0 0) ∧ w3.frozen? ⟨G, 3, none⟩ = false ∧
      (w3.setCell ⟨G, 3, none⟩ (.slice (some ⟨W2.heap.size, 0, none⟩) 0 p)).cell? ⟨G, 2, none⟩ = some (.int .i64 (u : Int)) ∧
      Hid ((w3.setCell ⟨G, 3, none⟩ (.slice (some ⟨W2.heap.size, 0, none⟩) 0 p)).heap[G]? = some (.cells (emptyD c (p : Int) (u : Int) (.slice (some ⟨W2.heap.size, 0, none⟩) 0 p) (.slice none 0 0)) 58) ∧
        CRow (w3.setCell ⟨G, 3, none⟩ (.slice (some ⟨W2.heap.size, 0, none⟩) 0 p)) (G + 1) p [] ∧ RowKit.Below G w (w3.setCell ⟨G, 3, none⟩ (.slice (some ⟨W2.heap.size, 0, none⟩) 0 p)))) := Lib.hid fun w3 ho hg => by
    have e1 : w3.heap[G]? = _ := (hg.block G (by omega) (by intro e; cases e)).trans h2
    have e2 := at_set e1 3 (.slice (some ⟨W2.heap.size, 0, none⟩) 0 p)
    have hr := (CRow.of_own (L := []) ho rfl).1
    rw [hs2] at hr
    refine ⟨cell_of e1 rfl, free_of e1, cell_of e2 rfl, Lib.hid ⟨e2, hr.far (a := ⟨G, 3, none⟩) (by show G ≠ G + 1; omega) _, ?_⟩⟩
    exact (hB2.grown hg (by omega) (fun q hq => by cases hq)).setCell (p := ⟨G, 3, none⟩) (Nat.le_refl _) _
  have hb1 : Hid (G ≤ W2.heap.size) := Lib.hid (by omega)
  have Hs2 := Lib.hid hs2
  have hpi : (p : Int) ≤ 2000 := by omega
  have hui : (u : Int) ≤ 8000 := by omega
  have HG := Lib.hid hG
  have Hpe := Lib.hid hpe
  have Hue := Lib.hid hue
  clear h1 hB1 hs1 h2 hB2 hs2 hpe hue hc hc2
  go_enter Tryz.func17, Tryz.ntmps17
  go_upto_region 2 with fail
  rw [← hG, ← hW1]
  clear hG hW1
  go_upto_region 4 with (first
    | (go_at_call 29; refine (hp _).out.mono ?_; rintro e w2 ⟨rfl, rfl⟩)
    | (go_at_call 30; refine (hu _).out.mono ?_; rintro e w2 ⟨rfl, rfl⟩))
  rw [← hW2]
  clear hW2 a0 a1 a2 f1 f2
  go_upto_region 5 with (at_make; refine wpList_make_own _ rfl _ _ 46 rfl G 49 i0 _ 2 Tryz.underlying46 hi hz0 hz1 _ _ _ p rfl rfl rfl (by rw [hz2]; omega) (by unfold maxLen; omega) hb1.out ?_; intro w3 ho hg; obtain ⟨y1, y2, y3, y4⟩ := Y1.out w3 ho hg; clear ho hg)
  obtain ⟨V, hV⟩ : ∃ V : World, V = w3.setCell ⟨G, 3, none⟩ (.slice (some ⟨W2.heap.size, 0, none⟩) 0 p) := ⟨_, rfl⟩
  rw [← hV] at y3 y4 ⊢
  clear hV y1 y2 b1 Y1
  obtain ⟨k1, k2, k3⟩ := y4.out
  have hVs : Hid (G ≤ V.heap.size) := Lib.hid (by have := lt_of_at k1; omega)
  have hbUne : G + 1 < V.heap.size := k2.lt
  -- the second row
  have Y2 : Hid (∀ w4 : World, w4.ownsRow G 49 2 (.slice (some ⟨V.heap.size, 0, none⟩) 0 (u + 1)) 0 [] → V.grownBy w4 none →
      w4.cell? ⟨G, 4, none⟩ = some (.slice none 0 0) ∧ w4.frozen? ⟨G, 4, none⟩ = false ∧
      Hid ((w4.setCell ⟨G, 4, none⟩ (.slice (some ⟨V.heap.size, 0, none⟩) 0 (u + 1))).heap[G]? = some (.cells (emptyD c (p : Int) (u : Int) (.slice (some ⟨W2.heap.size, 0, none⟩) 0 p) (.slice (some ⟨V.heap.size, 0, none⟩) 0 (u + 1))) 58) ∧
        CRow (w4.setCell ⟨G, 4, none⟩ (.slice (some ⟨V.heap.size, 0, none⟩) 0 (u + 1))) (G + 1) p [] ∧ CRow (w4.setCell ⟨G, 4, none⟩ (.slice (some ⟨V.heap.size, 0, none⟩) 0 (u + 1))) V.heap.size (u + 1) [] ∧
        RowKit.Below G w (w4.setCell ⟨G, 4, none⟩ (.slice (some ⟨V.heap.size, 0, none⟩) 0 (u + 1))))) := Lib.hid fun w4 ho hg => by
    have e1 : w4.heap[G]? = _ := (hg.block G (by omega) (by intro e; cases e)).trans k1
    have e2 := at_set e1 4 (.slice (some ⟨V.heap.size, 0, none⟩) 0 (u + 1))
    have hr := (CRow.of_own (L := []) ho rfl).1
    refine ⟨cell_of e1 rfl, free_of e1, Lib.hid ⟨e2, (k2.grown hg (by intro e; cases e)).far (a := ⟨G, 4, none⟩) (by show G ≠ G + 1; omega) _, hr.far (a := ⟨G, 4, none⟩) (by show G ≠ V.heap.size; omega) _, ?_⟩⟩
    exact (k3.grown hg (by omega) (fun q hq => by cases hq)).setCell (p := ⟨G, 4, none⟩) (Nat.le_refl _) _
  have HbU := Lib.hid hbUne
  clear k1 k2 k3 y4 hbUne
  go_upto_region 6 with (at_make; refine wpList_make_own _ rfl _ _ 46 rfl G 49 i0 _ 2 Tryz.underlying46 hi hz0 hz1 _ _ _ (u + 1) rfl rfl (by push_cast; rfl) (by rw [hz2]; omega) (by unfold maxLen; omega) hVs.out ?_; intro w4 ho hg; obtain ⟨y1, y2, y4⟩ := Y2.out w4 ho hg; clear ho hg)
  obtain ⟨V2, hV2⟩ : ∃ V2 : World, V2 = w4.setCell ⟨G, 4, none⟩ (.slice (some ⟨V.heap.size, 0, none⟩) 0 (u + 1)) := ⟨_, rfl⟩
  rw [← hV2] at y4 ⊢
  clear hV2 y1 y2 Y2
  obtain ⟨k1, k2, k3, k4⟩ := y4.out
  have hre := Lib.hid (reset_calls k1)
  have hfin : Hid (∃ l, PM [] w (((((((V2.setCell ⟨G, 3, none⟩ (.slice (some ⟨W2.heap.size, 0, none⟩) 0 p)).setCell ⟨G, 4, none⟩ (.slice (some ⟨V.heap.size, 0, none⟩) 0 (u + 1))).setCell ⟨G, 5, none⟩ (.slice none 0 0)).setCell ⟨G, 6, none⟩ (.float .f64 0)).setCell ⟨G, 7, none⟩ (.float .f64 0)).setCell ⟨G, 8, none⟩ (.float .f64 9218868437227405311)).setCell ⟨G, 9, none⟩ (.float .f64 18442240474082181119)) G G c l [] [] [] 0 0 maxF minF) := Lib.hid (by
    have hW2s := Hs2.out
    have hV := HbU.out
    refine ⟨⟨G + 1, p, V.heap.size, u + 1, none, 0, 0, G⟩, ?_, ?_, ?_, .inl ⟨rfl, rfl, rfl, rfl, rfl⟩, ?_, ?_, ?_, ?_, ?_⟩
    · have := at_set (at_set (at_set (at_set (at_set (at_set (at_set k1 3 (.slice (some ⟨W2.heap.size, 0, none⟩) 0 p)) 4 (.slice (some ⟨V.heap.size, 0, none⟩) 0 (u + 1))) 5 (.slice none 0 0)) 6 (.float .f64 0)) 7 (.float .f64 0)) 8 (.float .f64 9218868437227405311)) 9 (.float .f64 18442240474082181119)
      unfold DgAt dgV
      rw [FI_zero, ← Hpe.out, ← Hue.out, ← hW2s]
      exact this
    · have hne : ∀ i, (⟨G, i, none⟩ : Addr).block ≠ G + 1 := fun i => by show G ≠ G + 1; omega
      exact ((((((k2.far (hne _) _).far (hne _) _).far (hne _) _).far (hne _) _).far (hne _) _).far (hne _) _).far (hne _) _
    · have hne : ∀ i, (⟨G, i, none⟩ : Addr).block ≠ V.heap.size := fun i => by show G ≠ V.heap.size; omega
      exact ((((((k3.far (hne _) _).far (hne _) _).far (hne _) _).far (hne _) _).far (hne _) _).far (hne _) _).far (hne _) _
    · show G + 1 ≠ V.heap.size; omega
    · have := lt_of_at k1
      refine ⟨Nat.le_refl _, by show G ≤ G + 1; omega, by show G ≤ V.heap.size; omega, ?_⟩
      simp [World.setCell]; omega
    · have hb : ∀ i, G ≤ (⟨G, i, none⟩ : Addr).block := fun i => Nat.le_refl _
      exact ((((((k4.setCell (hb _) _).setCell (hb _) _).setCell (hb _) _).setCell (hb _) _).setCell (hb _) _).setCell (hb _) _).setCell (hb _) _
    · have hb : ∀ i, G ≤ (⟨G, i, none⟩ : Addr).block := fun i => Nat.le_refl _
      have k5 := ((((((k4.setCell (hb 3) (.slice (some ⟨W2.heap.size, 0, none⟩) 0 p)).setCell (hb 4) (.slice (some ⟨V.heap.size, 0, none⟩) 0 (u + 1))).setCell (hb 5) (.slice none 0 0)).setCell (hb 6) (.float .f64 0)).setCell (hb 7) (.float .f64 0)).setCell (hb 8) (.float .f64 9218868437227405311)).setCell (hb 9) (.float .f64 18442240474082181119)
      exact ⟨k5.size, fun b hb' _ => k5.block b (by have := HG.out; omega)⟩
    · intro b hb
      have := HG.out
      simp only [List.mem_cons, List.not_mem_nil, or_false] at hb
      right
      rcases hb with h | h | h | h
      · omega
      · have e : b = G + 1 := h
        omega
      · have e : b = V.heap.size := h
        omega
      · have e : b = G := h
        omega)
  clear k1 k2 k3 k4 y4
  go_wp2_with (go_at_call 31; refine hre.out.mono ?_; rintro e w5 ⟨rfl, rfl⟩)
  go_ret
  refine ⟨by rw [HG.out]; rfl, ?_⟩
  rw [← HG.out]
  exact hfin
end Go.Proofs.YthcgojhfbcgaiaaGreatDoor
