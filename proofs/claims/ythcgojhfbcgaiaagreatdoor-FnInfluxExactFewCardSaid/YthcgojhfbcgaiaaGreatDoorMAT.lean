/- The methods of the list of centroids, and how they are found behind a pointer. Conditions: the means are floats that are finite and not negative. The methods of the slice of samples, and its sort. Conditions: the values are floats that are finite and not negative. Blocks of the heap under stores, makings, draws. No condition. -/
import Derived.Lib.Hide
import Derived.Test.YthcgojhfbcgaiaaGreatDoorMAR
import Derived.Test.YthcgojhfbcgaiaaGreatDoorMAS
import Derived.Test.YthcgojhfbcgaiaaGreatDoorShelf
import Derived.Test.YthcgojhfbcgaiaaGreatDoorMAK
import Derived.Test.YthcgojhfbcgaiaaGreatDoorMAQ
import Derived.Laws.IdiomCopy

namespace Go.Proofs.YthcgojhfbcgaiaaGreatDoor
open Go.RowKit Go.Sort Go.Proofs

/-- A word made one that is finite and not negative. -/
def san (x : Nat) : Nat := min x (2047 * 2 ^ 52 - 1)
theorem san_lt (x : Nat) : san x < 2047 * 2 ^ 52 := by unfold san; omega
theorem san_of {x : Nat} (h : x < 2047 * 2 ^ 52) : san x = x := by unfold san; omega
def encC (c : Cen) : List Value := [.float .f64 c.m, .float .f64 (FI c.w)]
def encS (c : Cen) : List Value := encC ⟨san c.m, c.w⟩
theorem encC_len (x : Cen) : (encC x).length = 2 := rfl
theorem encS_len (x : Cen) : (encS x).length = 2 := rfl
theorem encS_of {c : Cen} (h : c.m < 2047 * 2 ^ 52) : encS c = encC c := by unfold encS; rw [san_of h]
def ltC (x y : Cen) : Bool := decide (san x.m < san y.m)
theorem ltC_SWO : SWO ltC where
  irrefl := fun _ => by simp [ltC]
  trans := fun _ _ _ h1 h2 => by simp [ltC] at *; omega
  ntrans := fun _ _ _ h1 h2 => by simp [ltC] at *; omega
theorem lt_san (x y : Cen) : ((FloatKind.f64.format.order (san x.m) (san y.m)) == some .lt) = ltC x y :=
  lt_FNN ⟨san x.m, san_lt _⟩ ⟨san y.m, san_lt _⟩

set_option maxHeartbeats 400000 in
theorem cen_Len (a : Option Addr) (n c : Nat) (w : World) : Calls Tryz.prog 39 #[.slice a n c] w fun e w' => e = .returned (.int .i64 n) ∧ w = w' := by
  go_enter Tryz.func39, Tryz.ntmps39
  go_wp2
  go_ret
  exact ⟨rfl, rfl⟩

set_option maxHeartbeats 400000 in
theorem cen_Less (blk off n c i j : Nat) (hi : i < n) (hj : j < n) (x y : Cen) (w : World) (hx : w.cell? ⟨blk, off + i * 2, none⟩ = some (.float .f64 (san x.m))) (hy : w.cell? ⟨blk, off + j * 2, none⟩ = some (.float .f64 (san y.m))) :
    Calls Tryz.prog 150 #[.slice (some ⟨blk, off, none⟩) n c, .int .i64 i, .int .i64 j] w fun e w' => e = .returned (.bool (ltC x y)) ∧ ∃ q, w' = w.drewN q := by
  have hl := lt_san x y
  generalize san x.m = xm at *
  generalize san y.m = ym at *
  go_enter Tryz.func150, Tryz.ntmps150
  go_wp2_with fail
  go_quiet (fail)
  go_wp2
  go_ret
  exact ⟨rfl, nq, rfl⟩

set_option maxHeartbeats 1000000 in
set_option maxRecDepth 100000 in
theorem cen_Swap_ne (blk off n c i j : Nat) (hi : i < n) (hj : j < n) (hij : i ≠ j) (x0 x1 y0 y1 : Nat) (w : World)
    (hx0 : w.cell? ⟨blk, off + i * 2, none⟩ = some (.float .f64 x0)) (hx1 : w.cell? ⟨blk, off + i * 2 + 1, none⟩ = some (.float .f64 x1))
    (hy0 : w.cell? ⟨blk, off + j * 2, none⟩ = some (.float .f64 y0)) (hy1 : w.cell? ⟨blk, off + j * 2 + 1, none⟩ = some (.float .f64 y1))
    (fx0 : w.frozen? ⟨blk, off + i * 2, none⟩ = false) (fx1 : w.frozen? ⟨blk, off + i * 2 + 1, none⟩ = false)
    (fy0 : w.frozen? ⟨blk, off + j * 2, none⟩ = false) (fy1 : w.frozen? ⟨blk, off + j * 2 + 1, none⟩ = false) :
    Calls Tryz.prog 151 #[.slice (some ⟨blk, off, none⟩) n c, .int .i64 i, .int .i64 j] w fun e w' => e = .returned (.tuple #[]) ∧
      w' = ((w.setCells blk (off + i * 2) [.float .f64 y0, .float .f64 y1]).setCells blk (off + j * 2) [.float .f64 x0, .float .f64 x1]).drewN 1 := by
  go_enter Tryz.func151, Tryz.ntmps151
  go_wp2_with fail
  go_region
  go_wp2
  go_end0
  exact ⟨rfl, rfl⟩

set_option maxHeartbeats 1000000 in
set_option maxRecDepth 100000 in
theorem cen_Swap_eq (blk off n c i : Nat) (hi : i < n) (x0 x1 : Nat) (w : World)
    (hx0 : w.cell? ⟨blk, off + i * 2, none⟩ = some (.float .f64 x0)) (hx1 : w.cell? ⟨blk, off + i * 2 + 1, none⟩ = some (.float .f64 x1))
    (fx0 : w.frozen? ⟨blk, off + i * 2, none⟩ = false) (fx1 : w.frozen? ⟨blk, off + i * 2 + 1, none⟩ = false) :
    Calls Tryz.prog 151 #[.slice (some ⟨blk, off, none⟩) n c, .int .i64 i, .int .i64 i] w fun e w' => e = .returned (.tuple #[]) ∧
      w' = ((w.setCells blk (off + i * 2) [.float .f64 x0, .float .f64 x1]).setCells blk (off + i * 2) [.float .f64 x0, .float .f64 x1]).drewN 1 := by
  go_enter Tryz.func151, Tryz.ntmps151
  go_wp2_with fail
  go_region
  go_wp2
  go_end0
  exact ⟨rfl, rfl⟩

/-- WHAT THE SORT ASKS OF THE METHODS. -/
theorem cen_LessM (blk off n c : Nat) (w : World) (d : Array Cen) (hd : d.size = n) (hH : HoldsK encS 2 w blk off d) (hblk : blk < w.heap.size) :
    LessMK Tryz.prog 150 (.slice (some ⟨blk, off, none⟩) n c) encS 2 ltC blk off n w := fun m os dk hs i j hi hj => by
  have h := holdsK_sortWorldK encS 2 w blk off m d dk os hblk hH (by rw [hs, hd])
  have h1 := (h.cell (i := i) (c := 0) (by omega) (by omega)).1
  have h2 := (h.cell (i := j) (c := 0) (by omega) (by omega)).1
  exact cen_Less blk off n c i j hi hj dk[i]! dk[j]! _ h1 h2

theorem cen_SwapM (blk off n c : Nat) : SwapMK Tryz.prog 151 (.slice (some ⟨blk, off, none⟩) n c) encS 2 blk off n := fun W dk hH hs i j hi hj => by
  have g := fun (t : Nat) (ht : t < n) (c : Nat) (hc : c < 2) => hH.cell (i := t) (c := c) (by omega) hc
  by_cases hij : i = j
  · subst hij
    exact (cen_Swap_eq blk off n c i hi _ _ W (g i hi 0 (by omega)).1 (g i hi 1 (by omega)).1 (g i hi 0 (by omega)).2 (g i hi 1 (by omega)).2).mono
      fun e w' ⟨he, hw⟩ => ⟨he, 1, hw⟩
  · exact (cen_Swap_ne blk off n c i j hi hj hij _ _ _ _ W (g i hi 0 (by omega)).1 (g i hi 1 (by omega)).1 (g j hj 0 (by omega)).1 (g j hj 1 (by omega)).1
      (g i hi 0 (by omega)).2 (g i hi 1 (by omega)).2 (g j hj 0 (by omega)).2 (g j hj 1 (by omega)).2).mono
      fun e w' ⟨he, hw⟩ => ⟨he, 1, hw⟩

theorem viaC_Len (N r o : Nat) (w : World) :
    (method (N + 3) 74 (.pointer (some ⟨r, o, none⟩)) "Len").run Tryz.prog w = (do let v ← loadVar 46 ⟨r, o, none⟩; pure (39, v) : Sem (FuncId × Value)).run Tryz.prog w := by kernel_rfl
theorem viaC_Less (N r o : Nat) (w : World) :
    (method (N + 3) 74 (.pointer (some ⟨r, o, none⟩)) "Less").run Tryz.prog w = (do let v ← loadVar 46 ⟨r, o, none⟩; pure (150, v) : Sem (FuncId × Value)).run Tryz.prog w := by kernel_rfl
theorem viaC_Swap (N r o : Nat) (w : World) :
    (method (N + 3) 74 (.pointer (some ⟨r, o, none⟩)) "Swap").run Tryz.prog w = (do let v ← loadVar 46 ⟨r, o, none⟩; pure (151, v) : Sem (FuncId × Value)).run Tryz.prog w := by kernel_rfl
theorem dep_eq (n : Nat) : n + Made.depth = (n + 97) + 3 := rfl
theorem load_CL {w : World} {r o : Nat} {a : Option Addr} {n c : Nat} (h : w.cell? ⟨r, o, none⟩ = some (.slice a n c)) : (loadVar 46 ⟨r, o, none⟩).run Tryz.prog w = .ok (.slice a n c) w := by
  go_simp
section
variable (r o : Nat) (a : Option Addr) (n c : Nat)
theorem reachC_Len : ReachesP Tryz.prog 74 (.pointer (some ⟨r, o, none⟩)) (.slice a n c) r o (.slice a n c) "Len" 39 where
  finds := fun w h => by
    rw [dep_eq, viaC_Len]; simp [load_CL h, Result.andThen]
  enters := fun args w => by kernel_rfl
theorem reachC_Less : ReachesP Tryz.prog 74 (.pointer (some ⟨r, o, none⟩)) (.slice a n c) r o (.slice a n c) "Less" 150 where
  finds := fun w h => by
    rw [dep_eq, viaC_Less]; simp [load_CL h, Result.andThen]
  enters := fun args w => by kernel_rfl
theorem reachC_Swap : ReachesP Tryz.prog 74 (.pointer (some ⟨r, o, none⟩)) (.slice a n c) r o (.slice a n c) "Swap" 151 where
  finds := fun w h => by
    rw [dep_eq, viaC_Swap]; simp [load_CL h, Result.andThen]
  enters := fun args w => by kernel_rfl
end

set_option maxHeartbeats 1000000 in
set_option maxRecDepth 100000 in
theorem cen_Sort_tiny {r o : Nat} (a : Option Addr) (n c : Nat) (w : World) (hn : n ≤ 1) (hc : w.cell? ⟨r, o, none⟩ = some (.slice a n c)) :
    Calls Tryz.prog 47 #[.iface 74 (.pointer (some ⟨r, o, none⟩))] w fun e w' => e = .returned (.tuple #[]) ∧ w = w' := by
  have m1 : ∀ N, (method (N + 3) 74 (.pointer (some ⟨r, o, none⟩)) "Len").run Tryz.prog w = .ok (39, .slice a n c) w := fun N => by
    rw [viaC_Len]; simp [load_CL hc, Result.andThen]
  have hlen := fun w => Lib.hid (cen_Len a n c w)
  have hn' : (n : Int) ≤ 1 := by omega
  clear hc hn
  go_enter Tryz.func47, Tryz.ntmps47
  go_wp2_with (go_at_call 39; refine (hlen _).out.mono ?_; rintro e w1 ⟨rfl, rfl⟩)
  (try simp only [Exit.inBlock, Exit.then]); first | (refine bodyPost_ret (results_none rfl _ _ _) rfl ?_; exact ⟨rfl, rfl⟩) | (go_end0; exact ⟨rfl, rfl⟩)
end Go.Proofs.YthcgojhfbcgaiaaGreatDoor

namespace Go.Proofs.YthcgojhfbcgaiaaGreatDoor
open Go.RowKit Go.Sort Go.Proofs

/-- A sample: its value, width, delta. -/
structure SmpF where
  v : FNN
  g : Nat
  d : Nat
instance : Inhabited SmpF := ⟨⟨default, 0, 0⟩⟩
def encSmp (x : SmpF) : List Value := [.float .f64 x.v.b, .float .f64 x.g, .float .f64 x.d]
theorem encSmp_len (x : SmpF) : (encSmp x).length = 3 := rfl
def ltSmp (x y : SmpF) : Bool := ltF x.v y.v
theorem ltSmp_SWO : SWO ltSmp where
  irrefl := fun _ => ltF_SWO.irrefl _
  trans := fun _ _ _ => ltF_SWO.trans _ _ _
  ntrans := fun _ _ _ => ltF_SWO.ntrans _ _ _

theorem reaches_Len (rv : Value) : Reaches Tryz.prog 94 rv "Len" 153 where
  finds := fun w => by kernel_rfl
  enters := fun args w => by kernel_rfl
theorem reaches_Less (rv : Value) : Reaches Tryz.prog 94 rv "Less" 154 where
  finds := fun w => by kernel_rfl
  enters := fun args w => by kernel_rfl
theorem reaches_Swap (rv : Value) : Reaches Tryz.prog 94 rv "Swap" 155 where
  finds := fun w => by kernel_rfl
  enters := fun args w => by kernel_rfl

set_option maxHeartbeats 400000 in
theorem smp_Len (a : Option Addr) (n c : Nat) (w : World) : Calls Tryz.prog 153 #[.slice a n c] w fun e w' => e = .returned (.int .i64 n) ∧ w = w' := by
  go_enter Tryz.func153, Tryz.ntmps153
  go_wp2
  go_ret
  exact ⟨rfl, rfl⟩

set_option maxHeartbeats 400000 in
theorem smp_Less (blk off n c i j : Nat) (hi : i < n) (hj : j < n) (x y : FNN) (w : World) (hx : w.cell? ⟨blk, off + i * 3, none⟩ = some (.float .f64 x.b)) (hy : w.cell? ⟨blk, off + j * 3, none⟩ = some (.float .f64 y.b)) :
    Calls Tryz.prog 154 #[.slice (some ⟨blk, off, none⟩) n c, .int .i64 i, .int .i64 j] w fun e w' => e = .returned (.bool (ltF x y)) ∧ ∃ q, w' = w.drewN q := by
  have hl := lt_FNN x y
  go_enter Tryz.func154, Tryz.ntmps154
  go_wp2_with fail
  go_quiet (fail)
  go_wp2
  go_ret
  exact ⟨rfl, nq, rfl⟩

set_option maxHeartbeats 1000000 in
set_option maxRecDepth 100000 in
theorem smp_Swap_ne (blk off n c i j : Nat) (hi : i < n) (hj : j < n) (hij : i ≠ j) (x0 x1 x2 y0 y1 y2 : Nat) (w : World)
    (hx0 : w.cell? ⟨blk, off + i * 3, none⟩ = some (.float .f64 x0)) (hx1 : w.cell? ⟨blk, off + i * 3 + 1, none⟩ = some (.float .f64 x1)) (hx2 : w.cell? ⟨blk, off + i * 3 + 2, none⟩ = some (.float .f64 x2))
    (hy0 : w.cell? ⟨blk, off + j * 3, none⟩ = some (.float .f64 y0)) (hy1 : w.cell? ⟨blk, off + j * 3 + 1, none⟩ = some (.float .f64 y1)) (hy2 : w.cell? ⟨blk, off + j * 3 + 2, none⟩ = some (.float .f64 y2))
    (fx0 : w.frozen? ⟨blk, off + i * 3, none⟩ = false) (fx1 : w.frozen? ⟨blk, off + i * 3 + 1, none⟩ = false) (fx2 : w.frozen? ⟨blk, off + i * 3 + 2, none⟩ = false)
    (fy0 : w.frozen? ⟨blk, off + j * 3, none⟩ = false) (fy1 : w.frozen? ⟨blk, off + j * 3 + 1, none⟩ = false) (fy2 : w.frozen? ⟨blk, off + j * 3 + 2, none⟩ = false) :
    Calls Tryz.prog 155 #[.slice (some ⟨blk, off, none⟩) n c, .int .i64 i, .int .i64 j] w fun e w' => e = .returned (.tuple #[]) ∧
      w' = ((w.setCells blk (off + i * 3) [.float .f64 y0, .float .f64 y1, .float .f64 y2]).setCells blk (off + j * 3) [.float .f64 x0, .float .f64 x1, .float .f64 x2]).drewN 1 := by
  go_enter Tryz.func155, Tryz.ntmps155
  go_wp2_with fail
  go_region
  go_wp2
  go_end0
  exact ⟨rfl, rfl⟩

set_option maxHeartbeats 1000000 in
set_option maxRecDepth 100000 in
theorem smp_Swap_eq (blk off n c i : Nat) (hi : i < n) (x0 x1 x2 : Nat) (w : World)
    (hx0 : w.cell? ⟨blk, off + i * 3, none⟩ = some (.float .f64 x0)) (hx1 : w.cell? ⟨blk, off + i * 3 + 1, none⟩ = some (.float .f64 x1)) (hx2 : w.cell? ⟨blk, off + i * 3 + 2, none⟩ = some (.float .f64 x2))
    (fx0 : w.frozen? ⟨blk, off + i * 3, none⟩ = false) (fx1 : w.frozen? ⟨blk, off + i * 3 + 1, none⟩ = false) (fx2 : w.frozen? ⟨blk, off + i * 3 + 2, none⟩ = false) :
    Calls Tryz.prog 155 #[.slice (some ⟨blk, off, none⟩) n c, .int .i64 i, .int .i64 i] w fun e w' => e = .returned (.tuple #[]) ∧
      w' = ((w.setCells blk (off + i * 3) [.float .f64 x0, .float .f64 x1, .float .f64 x2]).setCells blk (off + i * 3) [.float .f64 x0, .float .f64 x1, .float .f64 x2]).drewN 1 := by
  go_enter Tryz.func155, Tryz.ntmps155
  go_wp2_with fail
  go_region
  go_wp2
  go_end0
  exact ⟨rfl, rfl⟩

/-- WHAT THE SORT ASKS OF THE METHODS. -/
theorem smp_LessM (blk off n c : Nat) (w : World) (d : Array SmpF) (hd : d.size = n) (hH : HoldsK encSmp 3 w blk off d) (hblk : blk < w.heap.size) :
    LessMK Tryz.prog 154 (.slice (some ⟨blk, off, none⟩) n c) encSmp 3 ltSmp blk off n w := fun m os dk hs i j hi hj => by
  have h := holdsK_sortWorldK encSmp 3 w blk off m d dk os hblk hH (by rw [hs, hd])
  have h1 := (h.cell (i := i) (c := 0) (by omega) (by omega)).1
  have h2 := (h.cell (i := j) (c := 0) (by omega) (by omega)).1
  exact smp_Less blk off n c i j hi hj dk[i]!.v dk[j]!.v _ h1 h2

theorem smp_SwapM (blk off n c : Nat) : SwapMK Tryz.prog 155 (.slice (some ⟨blk, off, none⟩) n c) encSmp 3 blk off n := fun W dk hH hs i j hi hj => by
  have g := fun (t : Nat) (ht : t < n) (c : Nat) (hc : c < 3) => hH.cell (i := t) (c := c) (by omega) hc
  by_cases hij : i = j
  · subst hij
    exact (smp_Swap_eq blk off n c i hi _ _ _ W (g i hi 0 (by omega)).1 (g i hi 1 (by omega)).1 (g i hi 2 (by omega)).1 (g i hi 0 (by omega)).2 (g i hi 1 (by omega)).2 (g i hi 2 (by omega)).2).mono
      fun e w' ⟨he, hw⟩ => ⟨he, 1, hw⟩
  · exact (smp_Swap_ne blk off n c i j hi hj hij _ _ _ _ _ _ W (g i hi 0 (by omega)).1 (g i hi 1 (by omega)).1 (g i hi 2 (by omega)).1 (g j hj 0 (by omega)).1 (g j hj 1 (by omega)).1 (g j hj 2 (by omega)).1
      (g i hi 0 (by omega)).2 (g i hi 1 (by omega)).2 (g i hi 2 (by omega)).2 (g j hj 0 (by omega)).2 (g j hj 1 (by omega)).2 (g j hj 2 (by omega)).2).mono
      fun e w' ⟨he, hw⟩ => ⟨he, 1, hw⟩

/-- sort.Sort of samples: a sorted permutation. -/
theorem smp_Sort (blk off n c : Nat) (w : World) (d : Array SmpF) (hd : d.size = n) (h2 : 2 ≤ n) (hsz : n < 4611686018427387904) (hH : HoldsK encSmp 3 w blk off d) (hblk : blk < w.heap.size) :
    Calls Tryz.prog 47 #[.iface 94 (.slice (some ⟨blk, off, none⟩) n c)] w fun e w' => e = .returned (.tuple #[]) ∧
      ∃ d' k os, PermIn 0 n d d' ∧ SortedIn ltSmp 0 n d' ∧ w' = grow (putRowK encSmp 3 (Sort.ahead w k) blk off d') os := by
  subst hd
  exact sort_Sort_sortedK (P := Tryz.prog) Tryz.laysGt11 94 _ _ _ _ (reaches_Len _) (reaches_Less _) (reaches_Swap _) encSmp 3 encSmp_len ltSmp ltSmp_SWO blk off d h2 hsz w
    ((smp_Len _ _ _ _).mono fun e w' ⟨he, hw⟩ => ⟨he, 0, by rw [← hw]; rfl⟩) (smp_LessM blk off _ c w d rfl hH hblk) (smp_SwapM blk off _ c) hH hblk
theorem smp_Sort_tiny (a : Option Addr) (n c : Nat) (w : World) (hn : n ≤ 1) :
    Calls Tryz.prog 47 #[.iface 94 (.slice a n c)] w fun e w' => e = .returned (.tuple #[]) ∧ ∃ q, w' = w.drewN q :=
  Tryz.sort_Sort_tiny (α := Nat) 94 _ _ (reaches_Len _) n hn w ((smp_Len _ _ _ _).mono fun e w' ⟨he, hw⟩ => ⟨he, 0, by rw [← hw]; rfl⟩)
end Go.Proofs.YthcgojhfbcgaiaaGreatDoor

namespace Go.Proofs.YthcgojhfbcgaiaaGreatDoor
open Go.RowKit Go.Sort Go.Proofs

theorem at_sets {w : World} {b : Nat} {c : Array Value} {t : TypeId} (h : w.heap[b]? = some (.cells c t)) : ∀ (i : Nat) (vs : List Value),
    (w.setCells b i vs).heap[b]? = some (.cells (setMany c i vs) t) := by
  intro i vs
  induction vs generalizing i w c with
  | nil => exact h
  | cons v r ih => exact ih (at_set h i v) (i + 1)
theorem at_sets_other {w : World} {b g : Nat} {o : Obj} (hne : g ≠ b) (h : w.heap[b]? = some o) : ∀ (i : Nat) (vs : List Value), (w.setCells g i vs).heap[b]? = some o := by
  intro i vs
  induction vs generalizing i w with
  | nil => exact h
  | cons v r ih => exact ih (at_set_other v hne h) (i + 1)
theorem below_sets {base g : Nat} {a : World} (hg : base ≤ g) : ∀ (vs : List Value) (i : Nat) (w : World), Below base a w → Below base a (w.setCells g i vs)
  | [], _, _, h => h
  | v :: r, i, w, h => below_sets hg r (i + 1) _ (h.setCell (by exact hg) v)

theorem some_of_get! {F : Array Value} {t : Nat} (h : t < F.size) : F[t]? = some F[t]! := by
  rw [getElem!_pos F t h]; exact Array.getElem?_eq_getElem h

/-- The first samples of a buffer's cells. -/
def BufIs (bc : Array Value) (xs : List SmpF) : Prop := xs.length * 3 ≤ bc.size ∧ ∀ i, i < xs.length → ∀ c, c < 3 → bc[i * 3 + c]! = (encSmp xs[i]!)[c]!
theorem BufIs.nil (bc : Array Value) : BufIs bc [] := ⟨by simp, fun i h => absurd h (by simp)⟩
theorem BufIs.push {bc : Array Value} {xs : List SmpF} (h : BufIs bc xs) (x : SmpF) (hs : (xs.length + 1) * 3 ≤ bc.size) : BufIs (setMany bc (xs.length * 3) (encSmp x)) (xs ++ [x]) := by
  refine ⟨by simp [size_setMany]; omega, fun i hi c hc => ?_⟩
  have hi' : i < xs.length + 1 := by simpa using hi
  rw [get_setMany _ _ _ _ (by omega)]
  have hl : (encSmp x).length = 3 := rfl
  by_cases e : i = xs.length
  · subst e
    rw [if_pos (by rw [hl]; omega), show xs.length * 3 + c - xs.length * 3 = c by omega]
    simp
  · rw [if_neg (by rw [hl]; omega), h.2 i (by omega) c hc]
    have : (xs ++ [x])[i]! = xs[i]! := by
      rw [getElem!_pos _ i hi, getElem!_pos xs i (by omega), List.getElem_append_left]
    rw [this]
theorem BufIs.holds {w : World} {B : Nat} {bc : Array Value} {xs : List SmpF} {t : TypeId} (h : BufIs bc xs) (hB : w.heap[B]? = some (.cells bc t)) : HoldsK encSmp 3 w B 0 xs.toArray := by
  intro j hj
  rw [size_flatK] at hj
  rw [get_flatK _ _ _ _ hj]
  have h1 : j / 3 < xs.length := by simp at hj; omega
  have h2 := h.2 (j / 3) h1 (j % 3) (by omega)
  have hs := h.1
  refine ⟨cell_of hB ?_, free_of hB⟩
  rw [Nat.zero_add, some_of_get! (by simp at hj; omega)]
  rw [show j / 3 * 3 + j % 3 = j by omega] at h2
  rw [h2]
  simp
theorem at_putRowK {w : World} {B : Nat} {bc : Array Value} {t : TypeId} (d : Array SmpF) (hB : w.heap[B]? = some (.cells bc t)) (hs : d.size * 3 ≤ bc.size) :
    ∃ bc', (putRowK encSmp 3 w B 0 d).heap[B]? = some (.cells bc' t) ∧ bc'.size = bc.size ∧ BufIs bc' d.toList := by
  refine ⟨putCells id 0 (flatK encSmp 3 d) bc, ?_, ?_, ?_, ?_⟩
  · simp [putRowK, putRow, mapBlock, Array.getElem?_modify, hB, onCells]
  · simp [putCells]
  · simp [putCells]; omega
  · intro i hi c hc
    have hi' : i < d.size := by simpa using hi
    have : (putCells id 0 (flatK encSmp 3 d) bc)[i * 3 + c]! = (flatK encSmp 3 d)[i * 3 + c]! := by
      have hlt : i * 3 + c < bc.size := by omega
      rw [getElem!_pos _ _ (by simp [putCells]; exact hlt)]
      simp only [putCells, Array.getElem_mapIdx]
      rw [if_pos ⟨Nat.zero_le _, by rw [size_flatK]; omega⟩, Nat.sub_zero]; rfl
    rw [this, get_flatK _ _ _ _ (by omega), show (i * 3 + c) / 3 = i by omega, show (i * 3 + c) % 3 = c by omega]
    simp [hi']
theorem at_putRowK_other {w : World} {B b : Nat} {o : Obj} (d : Array SmpF) (hne : B ≠ b) (h : w.heap[b]? = some o) : (putRowK encSmp 3 w B 0 d).heap[b]? = some o := by
  simp [putRowK, putRow, mapBlock, Array.getElem?_modify, h, hne]
end Go.Proofs.YthcgojhfbcgaiaaGreatDoor
