/- The methods of the slice of samples, and its sort. Conditions: the values are floats that are finite and not negative. -/
import Derived.Test.YthcgojhfbcgaiaaSortQ
import Derived.Test.YthcgojhfbcgaiaaFSortA
import Derived.Test.YthcgojhfbcgaiaaShelf
namespace Go.Proofs.Ythcgojhfbcgaiaa
open Go.RowKit Go.Sort Go.Proofs

/-- A sample: its value, width, delta. -/
structure SmpF where
  v : FNN
  g : Nat
  d : Nat
instance : Inhabited SmpF := ⟨⟨default, 0, 0⟩⟩
def encSmp (x : SmpF) : List Value := [.float .f64 x.v.b, .float .f64 x.g, .float .f64 x.d]
theorem encSmp_len (x : SmpF) : (encSmp x).length = 3 := rfl
def ltSmp (x y : SmpF) : Bool := ltF x.v y.v
theorem ltSmp_SWO : SWO ltSmp where
  irrefl := fun _ => ltF_SWO.irrefl _
  trans := fun _ _ _ => ltF_SWO.trans _ _ _
  ntrans := fun _ _ _ => ltF_SWO.ntrans _ _ _

theorem reaches_Len (rv : Value) : Reaches Try.prog 89 rv "Len" 160 where
  finds := fun w => by kernel_rfl
  enters := fun args w => by kernel_rfl
theorem reaches_Less (rv : Value) : Reaches Try.prog 89 rv "Less" 161 where
  finds := fun w => by kernel_rfl
  enters := fun args w => by kernel_rfl
theorem reaches_Swap (rv : Value) : Reaches Try.prog 89 rv "Swap" 162 where
  finds := fun w => by kernel_rfl
  enters := fun args w => by kernel_rfl

set_option maxHeartbeats 400000 in
theorem smp_Len (a : Option Addr) (n c : Nat) (w : World) : Calls Try.prog 160 #[.slice a n c] w fun e w' => e = .returned (.int .i64 n) ∧ w = w' := by
  go_enter Try.func160, Try.ntmps160
  go_wp2
  go_ret
  exact ⟨rfl, rfl⟩

set_option maxHeartbeats 400000 in
theorem smp_Less (blk off n c i j : Nat) (hi : i < n) (hj : j < n) (x y : FNN) (w : World) (hx : w.cell? ⟨blk, off + i * 3, none⟩ = some (.float .f64 x.b)) (hy : w.cell? ⟨blk, off + j * 3, none⟩ = some (.float .f64 y.b)) :
    Calls Try.prog 161 #[.slice (some ⟨blk, off, none⟩) n c, .int .i64 i, .int .i64 j] w fun e w' => e = .returned (.bool (ltF x y)) ∧ ∃ q, w' = w.drewN q := by
  have hl := lt_FNN x y
  go_enter Try.func161, Try.ntmps161
  go_wp2_with fail
  go_quiet (fail)
  go_wp2
  go_ret
  exact ⟨rfl, nq, rfl⟩

set_option maxHeartbeats 1000000 in
set_option maxRecDepth 100000 in
theorem smp_Swap_ne (blk off n c i j : Nat) (hi : i < n) (hj : j < n) (hij : i ≠ j) (x0 x1 x2 y0 y1 y2 : Nat) (w : World)
    (hx0 : w.cell? ⟨blk, off + i * 3, none⟩ = some (.float .f64 x0)) (hx1 : w.cell? ⟨blk, off + i * 3 + 1, none⟩ = some (.float .f64 x1)) (hx2 : w.cell? ⟨blk, off + i * 3 + 2, none⟩ = some (.float .f64 x2))
    (hy0 : w.cell? ⟨blk, off + j * 3, none⟩ = some (.float .f64 y0)) (hy1 : w.cell? ⟨blk, off + j * 3 + 1, none⟩ = some (.float .f64 y1)) (hy2 : w.cell? ⟨blk, off + j * 3 + 2, none⟩ = some (.float .f64 y2))
    (fx0 : w.frozen? ⟨blk, off + i * 3, none⟩ = false) (fx1 : w.frozen? ⟨blk, off + i * 3 + 1, none⟩ = false) (fx2 : w.frozen? ⟨blk, off + i * 3 + 2, none⟩ = false)
    (fy0 : w.frozen? ⟨blk, off + j * 3, none⟩ = false) (fy1 : w.frozen? ⟨blk, off + j * 3 + 1, none⟩ = false) (fy2 : w.frozen? ⟨blk, off + j * 3 + 2, none⟩ = false) :
    Calls Try.prog 162 #[.slice (some ⟨blk, off, none⟩) n c, .int .i64 i, .int .i64 j] w fun e w' => e = .returned (.tuple #[]) ∧
      w' = ((w.setCells blk (off + i * 3) [.float .f64 y0, .float .f64 y1, .float .f64 y2]).setCells blk (off + j * 3) [.float .f64 x0, .float .f64 x1, .float .f64 x2]).drewN 1 := by
  go_enter Try.func162, Try.ntmps162
  go_wp2_with fail
  go_region
  go_wp2
  go_end0
  exact ⟨rfl, rfl⟩

set_option maxHeartbeats 1000000 in
set_option maxRecDepth 100000 in
theorem smp_Swap_eq (blk off n c i : Nat) (hi : i < n) (x0 x1 x2 : Nat) (w : World)
    (hx0 : w.cell? ⟨blk, off + i * 3, none⟩ = some (.float .f64 x0)) (hx1 : w.cell? ⟨blk, off + i * 3 + 1, none⟩ = some (.float .f64 x1)) (hx2 : w.cell? ⟨blk, off + i * 3 + 2, none⟩ = some (.float .f64 x2))
    (fx0 : w.frozen? ⟨blk, off + i * 3, none⟩ = false) (fx1 : w.frozen? ⟨blk, off + i * 3 + 1, none⟩ = false) (fx2 : w.frozen? ⟨blk, off + i * 3 + 2, none⟩ = false) :
    Calls Try.prog 162 #[.slice (some ⟨blk, off, none⟩) n c, .int .i64 i, .int .i64 i] w fun e w' => e = .returned (.tuple #[]) ∧
      w' = ((w.setCells blk (off + i * 3) [.float .f64 x0, .float .f64 x1, .float .f64 x2]).setCells blk (off + i * 3) [.float .f64 x0, .float .f64 x1, .float .f64 x2]).drewN 1 := by
  go_enter Try.func162, Try.ntmps162
  go_wp2_with fail
  go_region
  go_wp2
  go_end0
  exact ⟨rfl, rfl⟩

/-- WHAT THE SORT ASKS OF THE METHODS. -/
theorem smp_LessM (blk off n c : Nat) (w : World) (d : Array SmpF) (hd : d.size = n) (hH : HoldsK encSmp 3 w blk off d) (hblk : blk < w.heap.size) :
    LessMK Try.prog 161 (.slice (some ⟨blk, off, none⟩) n c) encSmp 3 ltSmp blk off n w := fun m os dk hs i j hi hj => by
  have h := holdsK_sortWorldK encSmp 3 w blk off m d dk os hblk hH (by rw [hs, hd])
  have h1 := (h.cell (i := i) (c := 0) (by omega) (by omega)).1
  have h2 := (h.cell (i := j) (c := 0) (by omega) (by omega)).1
  exact smp_Less blk off n c i j hi hj dk[i]!.v dk[j]!.v _ h1 h2

theorem smp_SwapM (blk off n c : Nat) : SwapMK Try.prog 162 (.slice (some ⟨blk, off, none⟩) n c) encSmp 3 blk off n := fun W dk hH hs i j hi hj => by
  have g := fun (t : Nat) (ht : t < n) (c : Nat) (hc : c < 3) => hH.cell (i := t) (c := c) (by omega) hc
  by_cases hij : i = j
  · subst hij
    exact (smp_Swap_eq blk off n c i hi _ _ _ W (g i hi 0 (by omega)).1 (g i hi 1 (by omega)).1 (g i hi 2 (by omega)).1 (g i hi 0 (by omega)).2 (g i hi 1 (by omega)).2 (g i hi 2 (by omega)).2).mono
      fun e w' ⟨he, hw⟩ => ⟨he, 1, hw⟩
  · exact (smp_Swap_ne blk off n c i j hi hj hij _ _ _ _ _ _ W (g i hi 0 (by omega)).1 (g i hi 1 (by omega)).1 (g i hi 2 (by omega)).1 (g j hj 0 (by omega)).1 (g j hj 1 (by omega)).1 (g j hj 2 (by omega)).1
      (g i hi 0 (by omega)).2 (g i hi 1 (by omega)).2 (g i hi 2 (by omega)).2 (g j hj 0 (by omega)).2 (g j hj 1 (by omega)).2 (g j hj 2 (by omega)).2).mono
      fun e w' ⟨he, hw⟩ => ⟨he, 1, hw⟩

/-- sort.Sort of samples: a sorted permutation. -/
theorem smp_Sort (blk off n c : Nat) (w : World) (d : Array SmpF) (hd : d.size = n) (h2 : 2 ≤ n) (hsz : n < 4611686018427387904) (hH : HoldsK encSmp 3 w blk off d) (hblk : blk < w.heap.size) :
    Calls Try.prog 54 #[.iface 89 (.slice (some ⟨blk, off, none⟩) n c)] w fun e w' => e = .returned (.tuple #[]) ∧
      ∃ d' k os, PermIn 0 n d d' ∧ SortedIn ltSmp 0 n d' ∧ w' = grow (putRowK encSmp 3 (Sort.ahead w k) blk off d') os := by
  subst hd
  exact sort_Sort_sortedK (P := Try.prog) Try.laysGt11 89 _ _ _ _ (reaches_Len _) (reaches_Less _) (reaches_Swap _) encSmp 3 encSmp_len ltSmp ltSmp_SWO blk off d h2 hsz w
    ((smp_Len _ _ _ _).mono fun e w' ⟨he, hw⟩ => ⟨he, 0, by rw [← hw]; rfl⟩) (smp_LessM blk off _ c w d rfl hH hblk) (smp_SwapM blk off _ c) hH hblk
theorem smp_Sort_tiny (a : Option Addr) (n c : Nat) (w : World) (hn : n ≤ 1) :
    Calls Try.prog 54 #[.iface 89 (.slice a n c)] w fun e w' => e = .returned (.tuple #[]) ∧ ∃ q, w' = w.drewN q :=
  Try.sort_Sort_tiny (α := Nat) 89 _ _ (reaches_Len _) n hn w ((smp_Len _ _ _ _).mono fun e w' ⟨he, hw⟩ => ⟨he, 0, by rw [← hw]; rfl⟩)
end Go.Proofs.Ythcgojhfbcgaiaa
