/- sort.Sort over elements of k cells: order2, median, medianAdjacent, choosePivot. Written by turn_sort.py for this claim. Conditions: the element's cells are k, the methods' contracts (LessMK, SwapMK, LenM). -/
import Derived.Test.YthcgojhfbcgaiaaGreatDoorMAM

namespace Go.Proofs.YthcgojhfbcgaiaaGreatDoor
open Go.Shelf Go.RowKit Go.Lib Go.Sort Go.Proofs
variable {P : Program} {ρ : Ren} {α : Type} [Inhabited α]

set_option maxHeartbeats 1000000 in
set_option maxRecDepth 100000 in
theorem order2_ifaceK (L : LaysGt.n50 P ρ) (T : TypeId) (rv : Value) (gl : Nat) (rL : Reaches P T rv "Less" gl) (enc : α → List Value) (k : Nat) (_hk : ∀ x, (enc x).length = k) (lt : α → α → Bool) (blk off : Nat) (w0 W : World) (d : Array α) (a b cb co s : Nat)
    (hL : LessMK P gl rv enc k lt blk off d.size w0) (hW : SWK enc k w0 blk off d W) (ha : a < d.size) (hb : b < d.size) (hS : Holds (Value.int .i64) W cb co (one s)) (hs : s < 4611686018427387904) :
    Calls P (ρ.f 50) #[.iface T rv, .int .i64 a, .int .i64 b, .pointer (some ⟨cb, co, none⟩)] W fun e w' =>
      e = .returned (.tuple #[.int .i64 (order2 lt d a b s).1, .int .i64 (order2 lt d a b s).2.1]) ∧ ∃ n os, w' = sortWorld (Value.int .i64) W cb co n (one (order2 lt d a b s).2.2) os := by
  have mixed := L.mixed; have t0 := L.t0; have a0 := L.a0; have z0 := L.z0; have v0 := L.v0; have t3 := L.t3; have a3 := L.a3; have z3 := L.z3; have v3 := L.v3; have t4 := L.t4; have a4 := L.a4; have z4 := L.z4; have v4 := L.v4; have t26 := L.t26; have a26 := L.a26; have z26 := L.z26; have v26 := L.v26; have t38 := L.t38; have a38 := L.a38; have z38 := L.z38; have v38 := L.v38; have t43 := L.t43; have a43 := L.a43; have z43 := L.z43; have v43 := L.v43; have t45 := L.t45; have a45 := L.a45; have z45 := L.z45; have v45 := L.v45; have t71 := L.t71; have a71 := L.a71; have z71 := L.z71; have v71 := L.v71
  have mL : ∀ w, Sem.run P (method (P.types.size + 100) T rv "Less") w = .ok (gl, rv) w := rL.finds
  have eL := rL.enters
  obtain ⟨cs, fs⟩ := one_cell hS
  have hl := hW.lessM hL rfl b a hb ha
  go_enter L.f50, BodyGt.n50_ntmps ρ
  cases hlv : lt d[b]! d[a]! with
  | true =>
    rw [hlv] at hl
    have e2 : order2 lt d a b s = (b, a, s + 1) := by simp [order2, hlv]
    go_wp2_with (go_at_fn gl; refine hl.mono ?_; rintro e w' ⟨rfl, q, rfl⟩)
    go_ret2
    rw [e2]
    exact ⟨rfl, q, _, counter_succ0 W q cb co s hS⟩
  | false =>
    rw [hlv] at hl
    have e2 : order2 lt d a b s = (a, b, s) := by simp [order2, hlv]
    go_wp2_with (go_at_fn gl; refine hl.mono ?_; rintro e w' ⟨rfl, q, rfl⟩)
    go_ret2
    rw [e2]
    exact ⟨rfl, q, _, counter_same0 W q cb co s hS⟩

set_option maxHeartbeats 1000000 in
set_option maxRecDepth 100000 in
theorem median_ifaceK (L : LaysGt.n47 P ρ) (T : TypeId) (rv : Value) (gl : Nat) (rL : Reaches P T rv "Less" gl) (enc : α → List Value) (k : Nat) (hk : ∀ x, (enc x).length = k) (lt : α → α → Bool) (blk off : Nat) (w0 W : World) (d : Array α) (a b c cb co s : Nat)
    (hL : LessMK P gl rv enc k lt blk off d.size w0) (hW : SWK enc k w0 blk off d W) (ha : a < d.size) (hb : b < d.size) (hc : c < d.size)
    (hS : Holds (Value.int .i64) W cb co (one s)) (hcb0 : w0.heap.size ≤ cb) (hcb : cb < W.heap.size) (hs : s + 3 < 4611686018427387904) :
    Calls P (ρ.f 47) #[.iface T rv, .int .i64 a, .int .i64 b, .int .i64 c, .pointer (some ⟨cb, co, none⟩)] W fun e w' =>
      e = .returned (.int .i64 (median lt d a b c s).1) ∧ ∃ n os, w' = sortWorld (Value.int .i64) W cb co n (one (median lt d a b c s).2) os := by
  have mixed := L.mixed; have t0 := L.t0; have a0 := L.a0; have z0 := L.z0; have v0 := L.v0; have t3 := L.t3; have a3 := L.a3; have z3 := L.z3; have v3 := L.v3; have t4 := L.t4; have a4 := L.a4; have z4 := L.z4; have v4 := L.v4; have t26 := L.t26; have a26 := L.a26; have z26 := L.z26; have v26 := L.v26; have t38 := L.t38; have a38 := L.a38; have z38 := L.z38; have v38 := L.v38; have t43 := L.t43; have a43 := L.a43; have z43 := L.z43; have v43 := L.v43; have t45 := L.t45; have a45 := L.a45; have z45 := L.z45; have v45 := L.v45; have t71 := L.t71; have a71 := L.a71; have z71 := L.z71; have v71 := L.v71; have t74 := L.t74; have a74 := L.a74; have z74 := L.z74; have v74 := L.v74
  have e50 : ∀ args w, (callFunc (ρ.f 50) args).run P w = .ok (.enter (ρ.f 50) args) w := enters_of L.f50 (by kernel_rfl) rfl
  have l1 := order2_lt' lt d s ha hb
  have s1 := order2_swaps' lt d a b s
  have l2 := order2_lt' lt d (order2 lt d a b s).2.2 l1.2 hc
  have s2 := order2_swaps' lt d (order2 lt d a b s).2.1 c (order2 lt d a b s).2.2
  have step : ∀ (n : Nat) (os : Array Obj) (t a' b' : Nat), a' < d.size → b' < d.size → t < 4611686018427387904 →
      Calls P (ρ.f 50) #[.iface T rv, .int .i64 a', .int .i64 b', .pointer (some ⟨cb, co, none⟩)] (sortWorld (Value.int .i64) W cb co n (one t) os) fun e w' =>
        e = .returned (.tuple #[.int .i64 (order2 lt d a' b' t).1, .int .i64 (order2 lt d a' b' t).2.1]) ∧ ∃ n' os', w' = sortWorld (Value.int .i64) W cb co n' (one (order2 lt d a' b' t).2.2) os' := fun n os t a' b' ha' hb' ht =>
    (order2_ifaceK (P := P) (ρ := ρ) { L with } T rv gl rL enc k hk lt blk off w0 _ d a' b' cb co t hL (hW.counter cb co n _ os hcb0) ha' hb' (holds_sortWorld _ _ cb co n (one s) _ os hcb hS rfl) ht).mono
      fun _ _ ⟨he, n', os', hw⟩ => ⟨he, _, _, hw.trans (sortWorld_on _ _ cb co n n' _ _ os os' hcb rfl)⟩
  have step0 := step 0 #[] s a b ha hb (by omega)
  rw [sortWorld_start _ _ cb co _ hS] at step0
  clear hS hL hW
  go_enter L.f47, BodyGt.n47_ntmps ρ
  go_wp2_with (go_at_fn_of (ρ.f 50) (Value.int .i64 (b : Int)); refine step0.mono ?_; rintro e w' ⟨rfl, n1, os1, rfl⟩)
  go_wp2_with (go_at_fn_of (ρ.f 50) (Value.int .i64 (c : Int)); refine (step n1 os1 _ _ c l1.2 hc (by omega)).mono ?_; rintro e w' ⟨rfl, n2, os2, rfl⟩)
  go_wp2_with (go_at_fn_of (ρ.f 50) (Value.int .i64 ((order2 lt d a b s).1 : Int)); refine (step n2 os2 _ _ _ l1.1 l2.1 (by omega)).mono ?_; rintro e w' ⟨rfl, n3, os3, rfl⟩)
  go_ret
  exact ⟨rfl, _, _, rfl⟩

set_option maxHeartbeats 1000000 in
set_option maxRecDepth 100000 in
theorem medianAdjacent_ifaceK (L : LaysGt.n46 P ρ) (T : TypeId) (rv : Value) (gl : Nat) (rL : Reaches P T rv "Less" gl) (enc : α → List Value) (k : Nat) (hk : ∀ x, (enc x).length = k) (lt : α → α → Bool) (blk off : Nat) (w0 W : World) (d : Array α) (a cb co s : Nat)
    (hL : LessMK P gl rv enc k lt blk off d.size w0) (hW : SWK enc k w0 blk off d W) (ha1 : 1 ≤ a) (ha2 : a + 1 < d.size) (hsz : d.size < 4611686018427387904)
    (hS : Holds (Value.int .i64) W cb co (one s)) (hcb0 : w0.heap.size ≤ cb) (hcb : cb < W.heap.size) (hs : s + 3 < 4611686018427387904) :
    Calls P (ρ.f 46) #[.iface T rv, .int .i64 a, .pointer (some ⟨cb, co, none⟩)] W fun e w' =>
      e = .returned (.int .i64 (medianAdjacent lt d a s).1) ∧ ∃ n os, w' = sortWorld (Value.int .i64) W cb co n (one (medianAdjacent lt d a s).2) os := by
  have mixed := L.mixed; have t0 := L.t0; have a0 := L.a0; have z0 := L.z0; have v0 := L.v0; have t3 := L.t3; have a3 := L.a3; have z3 := L.z3; have v3 := L.v3; have t4 := L.t4; have a4 := L.a4; have z4 := L.z4; have v4 := L.v4; have t26 := L.t26; have a26 := L.a26; have z26 := L.z26; have v26 := L.v26; have t38 := L.t38; have a38 := L.a38; have z38 := L.z38; have v38 := L.v38; have t43 := L.t43; have a43 := L.a43; have z43 := L.z43; have v43 := L.v43; have t45 := L.t45; have a45 := L.a45; have z45 := L.z45; have v45 := L.v45; have t71 := L.t71; have a71 := L.a71; have z71 := L.z71; have v71 := L.v71; have t74 := L.t74; have a74 := L.a74; have z74 := L.z74; have v74 := L.v74
  have e47 : ∀ args w, (callFunc (ρ.f 47) args).run P w = .ok (.enter (ρ.f 47) args) w := enters_of L.f47 (by kernel_rfl) rfl
  have hm := median_ifaceK (P := P) (ρ := ρ) { L with } T rv gl rL enc k hk lt blk off w0 W d (a - 1) a (a + 1) cb co s hL hW (by omega) (by omega) ha2 hS hcb0 hcb hs
  rw [show ((a - 1 : Nat) : Int) = (a : Int) - 1 by omega, show ((a + 1 : Nat) : Int) = (a : Int) + 1 by omega] at hm
  clear hS hL hW
  go_enter L.f46, BodyGt.n46_ntmps ρ
  go_wp2_with (go_at_fn (ρ.f 47); refine hm.mono ?_; rintro e w' ⟨rfl, n, os, rfl⟩)
  go_ret
  exact ⟨rfl, _, _, rfl⟩

/-- THE COUNTER's WORLD BEHIND ONE WORD ('pivot_world_func', without a box of 'data'). -/
theorem pivot_world_ifaceK (L : LaysGt.n36 P ρ) (T : TypeId) (rv : Value) (gl : Nat) (rL : Reaches P T rv "Less" gl) (enc : α → List Value) (k : Nat) (hk : ∀ x, (enc x).length = k) (lt : α → α → Bool) (blk off : Nat) (W : World) (d : Array α)
    (hless : LessMK P gl rv enc k lt blk off d.size W) (hH : HoldsK enc k W blk off d) (hsz : d.size < 4611686018427387904) :
    ∃ Wc : Nat → Nat → Array Obj → World,
      (W.alloc (.cells #[.int .i64 0] (ρ.t 3))) = Wc 0 0 #[] ∧
      (∀ N S os, (Wc N S os).cell? ⟨W.heap.size, 0, none⟩ = some (.int .i64 S)) ∧
      (∀ N S os, ∃ n os', Wc N S os = grow (Sort.ahead W n) os') ∧
      (∀ x s N os, 1 ≤ x → x + 1 < d.size → s + 3 < 4611686018427387904 → Calls P (ρ.f 46) #[.iface T rv, .int .i64 x, .pointer (some ⟨W.heap.size, 0, none⟩)] (Wc N s os) fun e w' => e = .returned (.int .i64 (medianAdjacent lt d x s).1) ∧ ∃ N' os', w' = Wc N' (medianAdjacent lt d x s).2 os') ∧
      (∀ x y z s N os, x < d.size → y < d.size → z < d.size → s + 3 < 4611686018427387904 → Calls P (ρ.f 47) #[.iface T rv, .int .i64 x, .int .i64 y, .int .i64 z, .pointer (some ⟨W.heap.size, 0, none⟩)] (Wc N s os) fun e w' => e = .returned (.int .i64 (median lt d x y z s).1) ∧ ∃ N' os', w' = Wc N' (median lt d x y z s).2 os') := by
  have hS2 : Holds (Value.int .i64) (W.alloc (.cells #[.int .i64 0] (ρ.t 3))) W.heap.size 0 (one 0) := fun j hj => by
    have : j = 0 := by simp at hj; omega
    subst this
    exact ⟨by rw [World.cell?_alloc_at _ _ _ _ rfl]; rfl, World.frozen?_alloc_at _ _ _ _ rfl⟩
  have hc2 : W.heap.size < ((W.alloc (.cells #[.int .i64 0] (ρ.t 3)))).heap.size := by simp
  have hW2 : SWK enc k W blk off d (W.alloc (.cells #[.int .i64 0] (ρ.t 3))) := (SWK.start hH).alloc _
  have hh := fun N S os => holds_sortWorld (Value.int .i64) (W.alloc (.cells #[.int .i64 0] (ρ.t 3))) W.heap.size 0 N (one 0) (one S) os hc2 hS2 rfl
  refine ⟨fun N S os => sortWorld (Value.int .i64) (W.alloc (.cells #[.int .i64 0] (ρ.t 3))) W.heap.size 0 N (one S) os, (sortWorld_start _ _ _ 0 _ hS2).symm, fun N S os => (one_cell (hh N S os)).1, fun N S os => ?_, fun x s N os h1 h2 hs => ?_, fun x y z s N os hx hy hz hs => ?_⟩
  · show ∃ n os', sortWorld _ _ _ _ _ _ _ = _
    unfold sortWorld
    rw [alloc_eq_grow, ahead_grow]
    obtain ⟨os', _, e⟩ := putRow_grow_new (Value.int .i64) (Sort.ahead W N) #[.cells #[.int .i64 0] (ρ.t 3)] W.heap.size 0 (one S) (Nat.le_refl _)
    exact ⟨N, _, by rw [e, grow_grow]⟩
  · exact (medianAdjacent_ifaceK (P := P) (ρ := ρ) { L with } T rv gl rL enc k hk lt blk off W _ d x W.heap.size 0 s hless (hW2.counter _ 0 N _ os (Nat.le_refl _)) h1 h2 hsz (hh N s os) (Nat.le_refl _) (lt_sortWorld _ _ _ 0 N _ os hc2) hs).mono
      fun _ _ ⟨he, n', os', hw⟩ => ⟨he, _, _, hw.trans (sortWorld_on _ _ _ 0 N n' _ _ os os' hc2 rfl)⟩
  · exact (median_ifaceK (P := P) (ρ := ρ) { L with } T rv gl rL enc k hk lt blk off W _ d x y z W.heap.size 0 s hless (hW2.counter _ 0 N _ os (Nat.le_refl _)) hx hy hz (hh N s os) (Nat.le_refl _) (lt_sortWorld _ _ _ 0 N _ os hc2) hs).mono
      fun _ _ ⟨he, n', os', hw⟩ => ⟨he, _, _, hw.trans (sortWorld_on _ _ _ 0 N n' _ _ os os' hc2 rfl)⟩

set_option maxHeartbeats 2000000 in
set_option maxRecDepth 100000 in
/-- sort.choosePivot (zsortinterface.go): THE LIBRARY's OWN TEXT COMPUTES 'Sort.choosePivot lt d a b'; the row is not turned; W is grown. (Derived/Shelf/GgSortFunc/Pivot.lean's text, turned by program.) -/
theorem choosePivot_ifaceK (L : LaysGt.n36 P ρ) (T : TypeId) (rv : Value) (gl : Nat) (rL : Reaches P T rv "Less" gl) (enc : α → List Value) (k : Nat) (hk : ∀ x, (enc x).length = k) (lt : α → α → Bool) (blk off a b : Nat) (W : World) (d : Array α)
    (hless : LessMK P gl rv enc k lt blk off d.size W) (hH : HoldsK enc k W blk off d) (hab : a < b) (hb : b ≤ d.size) (hsz : d.size < 4611686018427387904) :
    Calls P (ρ.f 36) #[.iface T rv, .int .i64 a, .int .i64 b] W fun e w' =>
      e = .returned (.tuple #[.int .i64 (choosePivot lt d a b).1, .int .i64 (hintCode (choosePivot lt d a b).2)]) ∧ ∃ n os, w' = grow (Sort.ahead W n) os := by
  obtain ⟨Wc, hW0, cS, hG, MA, MD⟩ := pivot_world_ifaceK L T rv gl rL enc k hk lt blk off W d hless hH hsz
  clear hH hless
  have mixed := L.mixed; have t0 := L.t0; have a0 := L.a0; have z0 := L.z0; have v0 := L.v0; have t3 := L.t3; have a3 := L.a3; have z3 := L.z3; have v3 := L.v3; have t4 := L.t4; have a4 := L.a4; have z4 := L.z4; have v4 := L.v4; have t26 := L.t26; have a26 := L.a26; have z26 := L.z26; have v26 := L.v26; have t38 := L.t38; have a38 := L.a38; have z38 := L.z38; have v38 := L.v38; have t43 := L.t43; have a43 := L.a43; have z43 := L.z43; have v43 := L.v43; have t45 := L.t45; have a45 := L.a45; have z45 := L.z45; have v45 := L.v45; have t60 := L.t60; have a60 := L.a60; have z60 := L.z60; have v60 := L.v60; have t71 := L.t71; have a71 := L.a71; have z71 := L.z71; have v71 := L.v71; have t74 := L.t74; have a74 := L.a74; have z74 := L.z74; have v74 := L.v74
  have e46 : ∀ args w, (callFunc (ρ.f 46) args).run P w = .ok (.enter (ρ.f 46) args) w := enters_of L.f46 (by kernel_rfl) rfl
  have e47 : ∀ args w, (callFunc (ρ.f 47) args).run P w = .ok (.enter (ρ.f 47) args) w := enters_of L.f47 (by kernel_rfl) rfl
  rw [choosePivot_eq]
  obtain ⟨I, hI⟩ : ∃ I : Nat, I = a + (b - a) / 4 * 1 := ⟨_, rfl⟩
  obtain ⟨J, hJ⟩ : ∃ J : Nat, J = a + (b - a) / 4 * 2 := ⟨_, rfl⟩
  obtain ⟨K, hK⟩ : ∃ K : Nat, K = a + (b - a) / 4 * 3 := ⟨_, rfl⟩
  have eI : ((a : Int) + ((b : Int) - (a : Int)) / 4) = (I : Int) := by omega
  have eJ : ((a : Int) + ((b : Int) - (a : Int)) / 4 * 2) = (J : Int) := by omega
  have eK : ((a : Int) + ((b : Int) - (a : Int)) / 4 * 3) = (K : Int) := by omega
  by_cases h8 : b - a ≥ 8
  · by_cases h50 : b - a ≥ 50
    · -- THE NINTHER
      obtain ⟨i1, s1, h1⟩ : ∃ i1 s1, medianAdjacent lt d I 0 = (i1, s1) := ⟨_, _, rfl⟩
      obtain ⟨j1, s2, h2⟩ : ∃ j1 s2, medianAdjacent lt d J s1 = (j1, s2) := ⟨_, _, rfl⟩
      obtain ⟨k1, s3, h3⟩ : ∃ k1 s3, medianAdjacent lt d K s2 = (k1, s3) := ⟨_, _, rfl⟩
      obtain ⟨p, s, h4⟩ : ∃ p s, median lt d i1 j1 k1 s3 = (p, s) := ⟨_, _, rfl⟩
      have hraw : rawPivot lt d a b = (p, s) := by simp only [rawPivot, if_pos h8, if_pos h50, ← hI, ← hJ, ← hK, h1, h2, h3, h4]
      have m1 := medianAdjacent_mem lt d I 0; rw [h1] at m1
      have m2 := medianAdjacent_mem lt d J s1; rw [h2] at m2
      have m3 := medianAdjacent_mem lt d K s2; rw [h3] at m3
      have n1 := medianAdjacent_count lt d I 0; rw [h1] at n1
      have n2 := medianAdjacent_count lt d J s1; rw [h2] at n2
      have n3 := medianAdjacent_count lt d K s2; rw [h3] at n3
      simp only [] at m1 m2 m3 n1 n2 n3
      have c1 : Calls P (ρ.f 46) #[.iface T rv, .int .i64 (I : Int), .pointer (some ⟨W.heap.size, 0, none⟩)] (Wc 0 0 #[]) fun e w' => e = .returned (.int .i64 (i1 : Int)) ∧ ∃ N' os', w' = Wc N' s1 os' := by
        have h := MA I 0 0 #[] (by omega) (by omega) (by omega); rw [h1] at h; exact h
      have c2 : ∀ N os, Calls P (ρ.f 46) #[.iface T rv, .int .i64 (J : Int), .pointer (some ⟨W.heap.size, 0, none⟩)] (Wc N s1 os) fun e w' => e = .returned (.int .i64 (j1 : Int)) ∧ ∃ N' os', w' = Wc N' s2 os' := fun N os => by
        have h := MA J s1 N os (by omega) (by omega) (by omega); rw [h2] at h; exact h
      have c3 : ∀ N os, Calls P (ρ.f 46) #[.iface T rv, .int .i64 (K : Int), .pointer (some ⟨W.heap.size, 0, none⟩)] (Wc N s2 os) fun e w' => e = .returned (.int .i64 (k1 : Int)) ∧ ∃ N' os', w' = Wc N' s3 os' := fun N os => by
        have h := MA K s2 N os (by omega) (by omega) (by omega); rw [h3] at h; exact h
      have c4 : ∀ N os, Calls P (ρ.f 47) #[.iface T rv, .int .i64 (i1 : Int), .int .i64 (j1 : Int), .int .i64 (k1 : Int), .pointer (some ⟨W.heap.size, 0, none⟩)] (Wc N s3 os) fun e w' => e = .returned (.int .i64 (p : Int)) ∧ ∃ N' os', w' = Wc N' s os' := fun N os => by
        have h := MD i1 j1 k1 s3 N os (by omega) (by omega) (by omega) (by omega); rw [h4] at h; exact h
      rw [hraw]
      obtain ⟨Hc, hHc⟩ : ∃ Hc : Int, Hc = hintCode (hintOf s) := ⟨_, rfl⟩
      have hh0 : s = 0 → Hc = 1 := fun h => by rw [hHc, h]; rfl
      have hh12 : s = 12 → Hc = 2 := fun h => by rw [hHc, h]; rfl
      have hhx : s ≠ 0 → s ≠ 12 → Hc = 0 := fun h1 h2 => by rw [hHc]; unfold hintOf; rw [if_neg h1, if_neg h2]; rfl
      show Calls P (ρ.f 36) _ W fun e w' => e = .returned (.tuple #[.int .i64 (p : Int), .int .i64 (hintCode (hintOf s))]) ∧ ∃ n os, w' = grow (Sort.ahead W n) os
      rw [← hHc]
      clear hHc hraw
      clear h1 h2 h3 h4 MA MD hI hJ hK m1 m2 m3
      go_enter L.f36, BodyGt.n36_ntmps ρ
      go_wp2_with (first
        | (go_at_fn_of (ρ.f 46) (Value.int .i64 (I : Int)); refine c1.mono ?_; rintro e w' ⟨rfl, N1, o1, rfl⟩)
        | (go_at_fn_of (ρ.f 46) (Value.int .i64 (J : Int)); refine (c2 _ _).mono ?_; rintro e w' ⟨rfl, N2, o2, rfl⟩)
        | (go_at_fn_of (ρ.f 46) (Value.int .i64 (K : Int)); refine (c3 _ _).mono ?_; rintro e w' ⟨rfl, N3, o3, rfl⟩)
        | (go_at_fn (ρ.f 47); refine (c4 _ _).mono ?_; rintro e w' ⟨rfl, N4, o4, rfl⟩))
      all_goals
        go_ret2
        refine ⟨?_, hG _ _ _⟩
        first
          | (have e0 : (s : Int) = 0 := of_beq_int (by assumption)
             rw [hh0 (by omega)]; rfl)
          | (have e1 : (s : Int) = 12 := of_beq_int (by assumption)
             rw [hh12 (by omega)]; rfl)
          | (have e0 : (s : Int) ≠ 0 := of_bne_int (by assumption)
             have e1 : (s : Int) ≠ 12 := of_bne_int (by assumption)
             rw [hhx (by omega) (by omega)]; rfl)
          | (rw [hh0 (by omega)]; rfl)
    · -- THE MEDIAN OF THREE
      obtain ⟨p, s, h4⟩ : ∃ p s, median lt d I J K 0 = (p, s) := ⟨_, _, rfl⟩
      have hraw : rawPivot lt d a b = (p, s) := by simp only [rawPivot, if_pos h8, if_neg h50, ← hI, ← hJ, ← hK, h4]
      have c4 : Calls P (ρ.f 47) #[.iface T rv, .int .i64 (I : Int), .int .i64 (J : Int), .int .i64 (K : Int), .pointer (some ⟨W.heap.size, 0, none⟩)] (Wc 0 0 #[]) fun e w' => e = .returned (.int .i64 (p : Int)) ∧ ∃ N' os', w' = Wc N' s os' := by
        have h := MD I J K 0 0 #[] (by omega) (by omega) (by omega) (by omega); rw [h4] at h; exact h
      rw [hraw]
      obtain ⟨Hc, hHc⟩ : ∃ Hc : Int, Hc = hintCode (hintOf s) := ⟨_, rfl⟩
      have hh0 : s = 0 → Hc = 1 := fun h => by rw [hHc, h]; rfl
      have hh12 : s = 12 → Hc = 2 := fun h => by rw [hHc, h]; rfl
      have hhx : s ≠ 0 → s ≠ 12 → Hc = 0 := fun h1 h2 => by rw [hHc]; unfold hintOf; rw [if_neg h1, if_neg h2]; rfl
      show Calls P (ρ.f 36) _ W fun e w' => e = .returned (.tuple #[.int .i64 (p : Int), .int .i64 (hintCode (hintOf s))]) ∧ ∃ n os, w' = grow (Sort.ahead W n) os
      rw [← hHc]
      clear hHc hraw
      clear h4 MA MD hI hJ hK
      go_enter L.f36, BodyGt.n36_ntmps ρ
      go_wp2_with (first | (go_at_fn (ρ.f 47); refine c4.mono ?_; rintro e w' ⟨rfl, N4, o4, rfl⟩))
      all_goals
        go_ret2
        refine ⟨?_, hG _ _ _⟩
        first
          | (have e0 : (s : Int) = 0 := of_beq_int (by assumption)
             rw [hh0 (by omega)]; rfl)
          | (have e1 : (s : Int) = 12 := of_beq_int (by assumption)
             rw [hh12 (by omega)]; rfl)
          | (have e0 : (s : Int) ≠ 0 := of_bne_int (by assumption)
             have e1 : (s : Int) ≠ 12 := of_bne_int (by assumption)
             rw [hhx (by omega) (by omega)]; rfl)
          | (rw [hh0 (by omega)]; rfl)
  · -- FEWER THAN EIGHT: the middle; nothing is counted
    obtain ⟨p, hp⟩ : ∃ p : Nat, p = J := ⟨_, rfl⟩
    obtain ⟨s, hs⟩ : ∃ s : Nat, s = 0 := ⟨_, rfl⟩
    have hraw : rawPivot lt d a b = (p, s) := by simp only [rawPivot, if_neg h8, ← hJ, hp, hs]
    rw [hraw]
    obtain ⟨Hc, hHc⟩ : ∃ Hc : Int, Hc = hintCode (hintOf s) := ⟨_, rfl⟩
    have hh0 : s = 0 → Hc = 1 := fun h => by rw [hHc, h]; rfl
    have hh12 : s = 12 → Hc = 2 := fun h => by rw [hHc, h]; rfl
    have hhx : s ≠ 0 → s ≠ 12 → Hc = 0 := fun h1 h2 => by rw [hHc]; unfold hintOf; rw [if_neg h1, if_neg h2]; rfl
    show Calls P (ρ.f 36) _ W fun e w' => e = .returned (.tuple #[.int .i64 (p : Int), .int .i64 (hintCode (hintOf s))]) ∧ ∃ n os, w' = grow (Sort.ahead W n) os
    rw [← hHc]
    clear hHc hraw
    subst hp
    clear MA MD hI hJ hK
    have hW0' : (W.alloc (.cells #[.int .i64 0] (ρ.t 3))) = Wc 0 s #[] := by rw [hs]; exact hW0
    clear hW0
    go_enter L.f36, BodyGt.n36_ntmps ρ
    go_wp2
    all_goals
      go_ret2
      refine ⟨?_, hG _ _ _⟩
      first
        | (have e0 : (s : Int) = 0 := of_beq_int (by assumption)
           rw [hh0 (by omega)]; rfl)
        | (have e1 : (s : Int) = 12 := of_beq_int (by assumption)
           rw [hh12 (by omega)]; rfl)
        | (have e0 : (s : Int) ≠ 0 := of_bne_int (by assumption)
           have e1 : (s : Int) ≠ 12 := of_bne_int (by assumption)
           rw [hhx (by omega) (by omega)]; rfl)
        | (rw [hh0 (by omega)]; rfl)
end Go.Proofs.YthcgojhfbcgaiaaGreatDoor
