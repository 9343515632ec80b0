/- Centroid.Add, the list's Clear. Conditions: the cells; the means' order; the weights' size. math.Max: one of the two. No condition. -/
import Derived.StillTailTactics
import Derived.Deep.Cut
import Derived.Deep.RegionHeld
import Derived.Test.YthcgojhfbcgaiaaGreatDoorMAK
import Derived.Test.YthcgojhfbcgaiaaGreatDoorMAJ

namespace Go.Proofs.YthcgojhfbcgaiaaGreatDoor
open Go.RowKit Go.Proofs

theorem FI_pos {n : Nat} (h : 1 ≤ n) (h2 : n < 2 ^ 40) : 0 < FI n := by
  rcases Nat.eq_zero_or_pos (FI n) with e | e
  · have v := rungVal_FI n (by omega)
    rw [show floatOfInt .f64 (n : Int) = 0 from e, rungVal_zero] at v
    have := Nat.mul_pos (show 0 < n by omega) E_pos
    omega
  · exact e
theorem FI_add (a b : Nat) (ha : a < 2 ^ 40) (hb : b < 2 ^ 40) : Ieee.double.add (FI a) (FI b) = some (FI (a + b)) := by
  show Ieee.double.add (floatOfInt .f64 (a : Int)) (floatOfInt .f64 (b : Int)) = some (floatOfInt .f64 ((a + b : Nat) : Int))
  rw [FI_FX a (by omega), FI_FX b (by omega), FI_FX (a + b) (by omega), FX_add (by omega) (by omega)]
  congr 2
  omega
theorem order_FI0 {n : Nat} (h : 1 ≤ n) (h2 : n < 2 ^ 40) : FloatKind.f64.format.order (FI n) 0 = some .gt := by
  rw [ord_le (FI_in n (by omega)) (by omega), Nat.compare_eq_gt.2 (FI_pos h h2)]

set_option maxHeartbeats 1000000 in
set_option maxRecDepth 100000 in
theorem cenAdd_raw {w : World} {g o am bm aw bw W d p q r : Nat} (h0 : w.cell? ⟨g, o, none⟩ = some (.float .f64 am)) (h1 : w.cell? ⟨g, o + 1, none⟩ = some (.float .f64 aw))
    (f0 : w.frozen? ⟨g, o, none⟩ = false) (f1 : w.frozen? ⟨g, o + 1, none⟩ = false) (oa : FloatKind.f64.format.order aw 0 = some .gt) (ob : FloatKind.f64.format.order bw 0 = some .gt)
    (e1 : Ieee.double.add aw bw = some W) (e2 : Ieee.double.sub bm am = some d) (e3 : Ieee.double.mul bw d = some p) (e4 : Ieee.double.div p W = some q) (e5 : Ieee.double.add am q = some r) :
    Calls Tryz.prog 50 #[.pointer (some ⟨g, o, none⟩), .agg #[.float .f64 bm, .float .f64 bw]] w fun e w' => e = .returned .nilIface ∧
      ∃ n, w' = (((w.alloc (.cells #[.float .f64 bm, .float .f64 bw] 49)).setCell ⟨g, o + 1, none⟩ (.float .f64 W)).setCell ⟨g, o, none⟩ (.float .f64 r)).drewN n := by
  obtain ⟨X, hX⟩ : ∃ X, X = w.heap.size := ⟨_, rfl⟩
  obtain ⟨V, hV⟩ : ∃ V : World, V = w.alloc (.cells #[.float .f64 bm, .float .f64 bw] 49) := ⟨_, rfl⟩
  have hgX : g < X := by rw [hX]; exact World.block_lt_of_cell? w _ h0
  have hXa : V.heap[X]? = some (.cells #[.float .f64 bm, .float .f64 bw] 49) := by rw [hV, hX]; exact hp_at _ _ _ rfl
  have v0 : V.cell? ⟨g, o, none⟩ = some (.float .f64 am) := by rw [hV, World.cell?_alloc_lt _ _ _ (by rw [← hX]; exact hgX)]; exact h0
  have v1 : V.cell? ⟨g, o + 1, none⟩ = some (.float .f64 aw) := by rw [hV, World.cell?_alloc_lt _ _ _ (by rw [← hX]; exact hgX)]; exact h1
  have z0 : V.frozen? ⟨g, o, none⟩ = false := by rw [hV, World.frozen?_alloc_past (hn := by rw [← hX]; exact hgX)]; exact f0
  have z1 : V.frozen? ⟨g, o + 1, none⟩ = false := by rw [hV, World.frozen?_alloc_past (hn := by rw [← hX]; exact hgX)]; exact f1
  have x0 : V.cell? ⟨X, 0, none⟩ = some (.float .f64 bm) := cell_of hXa rfl
  have x1 : V.cell? ⟨X, 1, none⟩ = some (.float .f64 bw) := cell_of hXa rfl
  obtain ⟨U, hU⟩ : ∃ U : World, U = (V.setCell ⟨g, o + 1, none⟩ (.float .f64 W)).drew := ⟨_, rfl⟩
  have hne : ¬ g = X := by omega
  have u0 : U.cell? ⟨g, o, none⟩ = some (.float .f64 am) := by
    rw [hU, World.cell?_drew, World.cell?_setCell_other _ _ _ _ (by intro e; injection e with e1 e2; omega)]; exact v0
  have u1 : U.cell? ⟨g, o + 1, none⟩ = some (.float .f64 W) := by rw [hU, World.cell?_drew]; exact World.cell?_setCell_same _ _ _ v1
  have zu : U.frozen? ⟨g, o, none⟩ = false := by rw [hU]; simp [z0]
  have y0 : U.cell? ⟨X, 0, none⟩ = some (.float .f64 bm) := by
    rw [hU, World.cell?_drew, World.cell?_setCell_far _ _ _ _ (by exact hne)]; exact x0
  have y1 : U.cell? ⟨X, 1, none⟩ = some (.float .f64 bw) := by
    rw [hU, World.cell?_drew, World.cell?_setCell_far _ _ _ _ (by exact hne)]; exact x1
  have k1 := ra e1
  have k2 := rs e2
  have k3 := rm e3
  have k4 := rq e4
  have k5 := ra e5
  have HV := Lib.hid hV
  have HU := Lib.hid hU
  have HX := Lib.hid hX
  clear e1 e2 e3 e4 e5 hV hU hX h0 h1 f0 f1 hXa hgX
  go_enter Tryz.func50, Tryz.ntmps50
  go_upto_region 1 with fail
  rw [← HV.out, ← HX.out]
  go_wp2_with fail
  go_still_tail 9, (by kernel_rfl)
  change wpList _ _ _ _ _ V.drew
  go_upto_region 5 with fail
  rw [← HU.out]
  go_still_tail 22, (by kernel_rfl)
  change wpList _ _ _ _ _ U.drew
  go_wp2_with fail
  go_ret
  refine ⟨rfl, 2, ?_⟩
  rw [← HV.out, HU.out]
  rfl
theorem cenAdd_calls {w : World} {g o : Nat} {a b : Cen} (h0 : w.cell? ⟨g, o, none⟩ = some (.float .f64 a.m)) (h1 : w.cell? ⟨g, o + 1, none⟩ = some (.float .f64 (FI a.w)))
    (f0 : w.frozen? ⟨g, o, none⟩ = false) (f1 : w.frozen? ⟨g, o + 1, none⟩ = false) (h : a.m ≤ b.m) (hb : b.m ≤ FI 1000) (ha : 1 ≤ a.w) (hw : 1 ≤ b.w) (hW : a.w + b.w ≤ 2 ^ 20) :
    Calls Tryz.prog 50 #[.pointer (some ⟨g, o, none⟩), .agg #[.float .f64 b.m, .float .f64 (FI b.w)]] w fun e w' => e = .returned .nilIface ∧
      ∃ n, w' = (((w.alloc (.cells #[.float .f64 b.m, .float .f64 (FI b.w)] 49)).setCell ⟨g, o + 1, none⟩ (.float .f64 (FI (addC a b).w))).setCell ⟨g, o, none⟩ (.float .f64 (addC a b).m)).drewN n := by
  obtain ⟨d, p, q, e1, e2, e3, e4, _⟩ := addC_ok h hb ha hw hW
  exact cenAdd_raw h0 h1 f0 f1 (order_FI0 ha (by omega)) (order_FI0 hw (by omega)) (FI_add a.w b.w (by omega) (by omega)) e1 e2 e3 e4

set_option maxRecDepth 100000 in
theorem clear_calls {w : World} {r o n c : Nat} {a : Addr} (h : w.cell? ⟨r, o, none⟩ = some (.slice (some a) n c)) (f : w.frozen? ⟨r, o, none⟩ = false) :
    Calls Tryz.prog 48 #[.pointer (some ⟨r, o, none⟩)] w fun e w' => e = .returned (.tuple #[]) ∧ w' = w.setCell ⟨r, o, none⟩ (.slice (some a) 0 c) := by
  go_enter Tryz.func48, Tryz.ntmps48
  go_wp2_with fail
  go_end0
  exact ⟨rfl, rfl⟩
end Go.Proofs.YthcgojhfbcgaiaaGreatDoor

namespace Go.Proofs.YthcgojhfbcgaiaaGreatDoor
open Go.RowKit Go.Proofs Ieee

def maxR (x y : Nat) : Nat :=
  let a := FloatKind.f64.decode x
  let b := FloatKind.f64.decode y
  if a == .infinity false || b == .infinity false then FloatKind.f64.encode (.infinity false)
  else if a.isNaN || b.isNaN then 0x7FF8000000000001
  else if a.isZero && b.isZero then (if a.neg == false then x else y)
  else if a.order b == some .gt then x else y
theorem maxR_one {x y A B : Nat} (hx : Mg x A) (hy : Mg y B) : maxR x y = x ∨ maxR x y = y := by
  obtain ⟨s, m, k, h1, _⟩ := hx
  obtain ⟨t, n, l, h2, _⟩ := hy
  have d1 : FloatKind.f64.decode x = .number s m ((k : Int) - 1074) := h1
  have d2 : FloatKind.f64.decode y = .number t n ((l : Int) - 1074) := h2
  unfold maxR
  simp only [d1, d2]
  have e1 : ((Datum.number s m ((k : Int) - 1074) == Datum.infinity false) || (Datum.number t n ((l : Int) - 1074) == Datum.infinity false)) = false := by
    rw [Bool.or_eq_false_iff]; constructor <;> (rw [beq_eq_false_iff_ne]; intro h; cases h)
  have e2 : ((Datum.number s m ((k : Int) - 1074)).isNaN || (Datum.number t n ((l : Int) - 1074)).isNaN) = false := rfl
  rw [e1, e2]
  simp only [Bool.false_eq_true, if_false]
  split
  · split
    · exact .inl rfl
    · exact .inr rfl
  · split
    · exact .inl rfl
    · exact .inr rfl
theorem run_archMax (x y : Nat) (w : World) : (callFunc 84 #[.float .f64 x, .float .f64 y]).run Tryz.prog w = .ok (.value (.float .f64 (maxR x y))) w := by
  rw [run_callFunc_extern (fn := Tryz.f84) (e := Extern.MathDim.pick "math.archMax" false .gt) (by kernel_rfl) (by kernel_rfl) (by kernel_rfl) (by kernel_rfl) (by kernel_rfl)]
  have e : Extern.MathDim.pick "math.archMax" false .gt #[.float .f64 x, .float .f64 y] = pure (.float .f64 (maxR x y)) := rfl
  rw [e]; rfl
set_option maxHeartbeats 400000 in
set_option maxRecDepth 10000 in
/-- math.Max: one of the two. -/
theorem Max_calls (x y : Nat) (w : World) : Calls Tryz.prog 53 #[.float .f64 x, .float .f64 y] w fun e w' => e = .returned (.float .f64 (maxR x y)) ∧ w = w' := by
  have hc := run_archMax x y
  generalize maxR x y = r at hc ⊢
  go_enter Tryz.func53, Tryz.ntmps53
  go_wp2_with fail
  go_ret
  exact ⟨rfl, rfl⟩
/-- The order of two that are numbers, as minR and maxR ask it. -/
theorem minR_pos {x y : Nat} (hx : x < 2047 * 2 ^ 52) (hy : y < 2047 * 2 ^ 52) : minR x y = min x y := by
  obtain ⟨m, k, h1, h2, _⟩ := read_pos hx
  obtain ⟨n, l, h3, h4, _⟩ := read_pos hy
  have d1 : FloatKind.f64.decode x = .number false m ((k : Int) - 1074) := h1
  have d2 : FloatKind.f64.decode y = .number false n ((l : Int) - 1074) := h3
  have ho : (Datum.number false m ((k : Int) - 1074)).order (Datum.number false n ((l : Int) - 1074)) = some (compare x y) := by
    have := order_pos hx hy
    unfold Format.order at this
    rw [h1, h3] at this
    exact this
  unfold minR
  simp only [d1, d2]
  have e1 : ((Datum.number false m ((k : Int) - 1074) == Datum.infinity true) || (Datum.number false n ((l : Int) - 1074) == Datum.infinity true)) = false := by
    rw [Bool.or_eq_false_iff]; constructor <;> (rw [beq_eq_false_iff_ne]; intro h; cases h)
  have e2 : ((Datum.number false m ((k : Int) - 1074)).isNaN || (Datum.number false n ((l : Int) - 1074)).isNaN) = false := rfl
  rw [e1, e2, ho]
  simp only [Bool.false_eq_true, if_false]
  have hz : ∀ (z c j : Nat), c * 2 ^ j = rungVal z → (Datum.number false c ((j : Int) - 1074)).isZero = true → z = 0 := fun z c j h hc => by
    have : c = 0 := by
      cases c with
      | zero => rfl
      | succ c => exact absurd hc (by intro h; cases h)
    rw [this, Nat.zero_mul] at h
    rcases Nat.eq_zero_or_pos z with h0 | h0
    · exact h0
    · have := rungVal_pos (Nat.pos_iff_ne_zero.1 h0); omega
  split
  · rename_i h
    rw [Bool.and_eq_true] at h
    have a := hz x m k h2 h.1
    have b := hz y n l h4 h.2
    split <;> omega
  · rcases Nat.lt_trichotomy x y with h | h | h
    · rw [Nat.compare_eq_lt.2 h]; simp; omega
    · rw [Nat.compare_eq_eq.2 h]; simp; omega
    · rw [Nat.compare_eq_gt.2 h]; simp; omega
theorem maxR_pos {x y : Nat} (hx : x < 2047 * 2 ^ 52) (hy : y < 2047 * 2 ^ 52) : maxR x y = max x y := by
  obtain ⟨m, k, h1, h2, _⟩ := read_pos hx
  obtain ⟨n, l, h3, h4, _⟩ := read_pos hy
  have d1 : FloatKind.f64.decode x = .number false m ((k : Int) - 1074) := h1
  have d2 : FloatKind.f64.decode y = .number false n ((l : Int) - 1074) := h3
  have ho : (Datum.number false m ((k : Int) - 1074)).order (Datum.number false n ((l : Int) - 1074)) = some (compare x y) := by
    have := order_pos hx hy
    unfold Format.order at this
    rw [h1, h3] at this
    exact this
  unfold maxR
  simp only [d1, d2]
  have e1 : ((Datum.number false m ((k : Int) - 1074) == Datum.infinity false) || (Datum.number false n ((l : Int) - 1074) == Datum.infinity false)) = false := by
    rw [Bool.or_eq_false_iff]; constructor <;> (rw [beq_eq_false_iff_ne]; intro h; cases h)
  have e2 : ((Datum.number false m ((k : Int) - 1074)).isNaN || (Datum.number false n ((l : Int) - 1074)).isNaN) = false := rfl
  rw [e1, e2, ho]
  simp only [Bool.false_eq_true, if_false]
  have hz : ∀ (z c j : Nat), c * 2 ^ j = rungVal z → (Datum.number false c ((j : Int) - 1074)).isZero = true → z = 0 := fun z c j h hc => by
    have : c = 0 := by
      cases c with
      | zero => rfl
      | succ c => exact absurd hc (by intro h; cases h)
    rw [this, Nat.zero_mul] at h
    rcases Nat.eq_zero_or_pos z with h0 | h0
    · exact h0
    · have := rungVal_pos (Nat.pos_iff_ne_zero.1 h0); omega
  split
  · rename_i h
    rw [Bool.and_eq_true] at h
    have a := hz x m k h2 h.1
    have b := hz y n l h4 h.2
    split <;> omega
  · rcases Nat.lt_trichotomy x y with h | h | h
    · rw [Nat.compare_eq_lt.2 h]; simp; omega
    · rw [Nat.compare_eq_eq.2 h]; simp; omega
    · rw [Nat.compare_eq_gt.2 h]; simp; omega
end Go.Proofs.YthcgojhfbcgaiaaGreatDoor
