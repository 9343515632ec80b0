/- sort.Sort over elements of k cells: siftDown, heapSort, partialInsertionSort, breakPatterns, with a receiver that is a pointer to the row's slice. Written by turn_psort.py for this claim. Conditions: the element's cells are k, the methods' contracts, the pointer's cell is kept. -/
import Derived.Test.YthcgojhfbcgaiaaGreatDoorMAR

namespace Go.Proofs.YthcgojhfbcgaiaaGreatDoor
set_option linter.unusedVariables false
open Go.Shelf Go.RowKit Go.Lib Go.Sort Go.Proofs
variable {P : Program} {ρ : Ren} {α : Type} [Inhabited α] {rv' : Value} {pr po : Nat} {pSL : Value}


set_option maxHeartbeats 4000000 in
set_option maxRecDepth 1000000 in
theorem siftDown_ifaceP (L : LaysGt.n43 P ρ) (T : TypeId) (rv : Value) (gl gs : Nat) (rL : ReachesP P T rv rv' pr po pSL "Less" gl) (rS : ReachesP P T rv rv' pr po pSL "Swap" gs) (enc : α → List Value) (k : Nat) (hk : ∀ x, (enc x).length = k) (lt : α → α → Bool) (blk off lo hi first : Nat) (d : Array α) (w : World) [kp0 : Kept pr po pSL blk w]
    (hless : LessMK P gl rv' enc k lt blk off d.size w) (hswap : SwapMK P gs rv' enc k blk off d.size) (hH : HoldsK enc k w blk off d) (hlo : lo ≤ hi) (hb : first + hi ≤ d.size) (hsz : d.size < 4611686018427387904) :
    Calls P (ρ.f 43) #[.iface T rv, .int .i64 lo, .int .i64 hi, .int .i64 first] w fun e w' =>
      e = .returned (.tuple #[]) ∧ ∃ n, w' = putRowK enc k (Sort.ahead w n) blk off (siftDown lt hi first lo d) := by
  have mixed := L.mixed; have t0 := L.t0; have a0 := L.a0; have z0 := L.z0; have v0 := L.v0; have t3 := L.t3; have a3 := L.a3; have z3 := L.z3; have v3 := L.v3; have t4 := L.t4; have a4 := L.a4; have z4 := L.z4; have v4 := L.v4; have t26 := L.t26; have a26 := L.a26; have z26 := L.z26; have v26 := L.v26; have t38 := L.t38; have a38 := L.a38; have z38 := L.z38; have v38 := L.v38; have t43 := L.t43; have a43 := L.a43; have z43 := L.z43; have v43 := L.v43; have t45 := L.t45; have a45 := L.a45; have z45 := L.z45; have v45 := L.v45
  -- (the walk's simp unfolds 'Made.depth' to 100: the two facts are laid in that form)
  have mL : ∀ (w : World) [Kept pr po pSL blk w], Sem.run P (method (P.types.size + 100) T rv "Less") w = .ok (gl, rv') w := fun w kp => rL.finds w kp.cell
  have mS : ∀ (w : World) [Kept pr po pSL blk w], Sem.run P (method (P.types.size + 100) T rv "Swap") w = .ok (gs, rv') w := fun w kp => rS.finds w kp.cell
  have eL := rL.enters; have eS := rS.enters
  go_enter L.f43, BodyGt.n43_ntmps ρ
  go_wp2
  go_loopg [8] (hi - lo) (fun kx s8 wr => ∃ (root : Nat) (dk : Array α) (n : Nat), s8 = .int .i64 root ∧ root ≤ hi ∧ hi - root ≤ kx ∧ dk.size = d.size ∧ wr = putRowK enc k (Sort.ahead w n) blk off dk ∧ Hid (siftDown lt hi first root dk = siftDown lt hi first lo d))
  case atStart => exact ⟨lo, d, 0, rfl, hlo, Nat.le_refl _, rfl, (putRowK_self enc k _ blk off d hH).symm, rfl⟩
  case round =>
    obtain ⟨root, dk, n, rfl, hr, hkx, hds, rfl, HE⟩ := hrel
    -- 'Less', 'Swap': the caller's own methods, at whatever two places, however many draws on
    have hlAt : ∀ (m i j : Nat), i < d.size → j < d.size → Calls P gl #[rv', .int .i64 i, .int .i64 j] (putRowK enc k (Sort.ahead w m) blk off dk) fun e w' => e = .returned (.bool (lt dk[i]! dk[j]!)) ∧ ∃ q, w' = putRowK enc k (Sort.ahead w (m + q)) blk off dk := fun m i j hi' hj' => by
      have hl := hless m #[] dk hds i j hi' hj'
      rw [← sortWorldK_plain] at hl
      exact hl.mono fun e w' ⟨he, q, hq⟩ => ⟨he, q, by rw [hq]; exact drewN_worldK enc k rfl q⟩
    have hsAt : ∀ (m i j : Nat), i < d.size → j < d.size → Calls P gs #[rv', .int .i64 i, .int .i64 j] (putRowK enc k (Sort.ahead w m) blk off dk) fun e w' => e = .returned (.tuple #[]) ∧ ∃ q, w' = putRowK enc k (Sort.ahead w (m + q)) blk off (swp dk i j) := fun m i j hi' hj' =>
      (hswap _ dk (holdsK_putRowK enc k _ blk off d dk (holdsK_ahead enc k _ m blk off d hH) hds) hds i j hi' hj').mono fun e w' ⟨he, q, hq⟩ => ⟨he, q, by rw [hq]; exact swapM_worldK enc k hk w m q blk off dk i j (by omega) (by omega)⟩
    have HL : Aside _ := hlAt
    have HS : Aside _ := hsAt
    clear hlAt hsAt hless hswap hH
    by_cases h0 : hi ≤ 2 * root + 1
    · -- no child: the loop is left
      have h0z : (hi : Int) ≤ 2 * (root : Int) + 1 := by omega
      go_wp2
      go_end0
      refine ⟨rfl, n, ?_⟩
      rw [← HE.out, sd_end lt dk h0]
    · have h0z : ¬ ((hi : Int) ≤ 2 * (root : Int) + 1) := by omega
      by_cases h1 : 2 * root + 2 < hi
      · -- there is a right child: 'data.Less(first+child, first+child+1)'
        have h1z : 2 * (root : Int) + 1 + 1 < (hi : Int) := by omega
        have hl1 := HL.out n (first + (2 * root + 1)) (first + (2 * root + 2)) (by omega) (by omega)
        rw [show ((first + (2 * root + 1) : Nat) : Int) = (first : Int) + (2 * (root : Int) + 1) by omega, show ((first + (2 * root + 2) : Nat) : Int) = (first : Int) + (2 * (root : Int) + 1) + 1 by omega] at hl1
        cases hL : lt dk[first + (2 * root + 1)]! dk[first + (2 * root + 2)]! with
        | true =>
          rw [hL] at hl1
          cases hG : lt dk[first + root]! dk[first + (2 * root + 2)]! with
          | true =>
            have hl2 : ∀ m, Calls P gl #[rv', .int .i64 ((first : Int) + (root : Int)), .int .i64 ((first : Int) + (2 * (root : Int) + 1 + 1))] (putRowK enc k (Sort.ahead w m) blk off dk) fun e w' => e = .returned (.bool true) ∧ ∃ q, w' = putRowK enc k (Sort.ahead w (m + q)) blk off dk := fun m => by
              have := HL.out m (first + root) (first + (2 * root + 2)) (by omega) (by omega)
              rw [hG, show ((first + root : Nat) : Int) = (first : Int) + (root : Int) by omega, show ((first + (2 * root + 2) : Nat) : Int) = (first : Int) + (2 * (root : Int) + 1 + 1) by omega] at this
              exact this
            have hs : ∀ m, Calls P gs #[rv', .int .i64 ((first : Int) + (root : Int)), .int .i64 ((first : Int) + (2 * (root : Int) + 1 + 1))] (putRowK enc k (Sort.ahead w m) blk off dk) fun e w' => e = .returned (.tuple #[]) ∧ ∃ q, w' = putRowK enc k (Sort.ahead w (m + q)) blk off (swp dk (first + root) (first + (2 * root + 2))) := fun m => by
              have := HS.out m (first + root) (first + (2 * root + 2)) (by omega) (by omega)
              rw [show ((first + root : Nat) : Int) = (first : Int) + (root : Int) by omega, show ((first + (2 * root + 2) : Nat) : Int) = (first : Int) + (2 * (root : Int) + 1 + 1) by omega] at this
              exact this
            clear HL HS
            go_wp2_with (first | (go_at_fn gl; refine hl1.mono ?_; rintro e w' ⟨rfl, q1, rfl⟩) | (go_at_fn gl; refine (hl2 _).mono ?_; rintro e w' ⟨rfl, q2, rfl⟩) | (go_at_fn gs; refine (hs _).mono ?_; rintro e w' ⟨rfl, q3, rfl⟩))
            go_roundg (hi - (2 * root + 2))
            case measure => omega
            case rel => exact ⟨2 * root + 2, swp dk (first + root) (first + (2 * root + 2)), _, by go_num, by omega, Nat.le_refl _, by rw [size_swp]; exact hds, rfl, (show Hid _ from by rw [← HE.out, sd_right_go lt dk h1 hL hG]; exact rfl)⟩
          | false =>
            have hl2 : ∀ m, Calls P gl #[rv', .int .i64 ((first : Int) + (root : Int)), .int .i64 ((first : Int) + (2 * (root : Int) + 1 + 1))] (putRowK enc k (Sort.ahead w m) blk off dk) fun e w' => e = .returned (.bool false) ∧ ∃ q, w' = putRowK enc k (Sort.ahead w (m + q)) blk off dk := fun m => by
              have := HL.out m (first + root) (first + (2 * root + 2)) (by omega) (by omega)
              rw [hG, show ((first + root : Nat) : Int) = (first : Int) + (root : Int) by omega, show ((first + (2 * root + 2) : Nat) : Int) = (first : Int) + (2 * (root : Int) + 1 + 1) by omega] at this
              exact this
            clear HL HS
            go_wp2_with (first | (go_at_fn gl; refine hl1.mono ?_; rintro e w' ⟨rfl, q1, rfl⟩) | (go_at_fn gl; refine (hl2 _).mono ?_; rintro e w' ⟨rfl, q2, rfl⟩))
            (try simp only [Exit.inBlock, Exit.then]); refine bodyPost_ret (results_none rfl _ _ _) rfl ?_
            refine ⟨rfl, ?_⟩
            rw [← HE.out, sd_right_stop lt dk h1 hL hG]
            exact ⟨_, rfl⟩
        | false =>
          rw [hL] at hl1
          cases hG : lt dk[first + root]! dk[first + (2 * root + 1)]! with
          | true =>
            have hl2 : ∀ m, Calls P gl #[rv', .int .i64 ((first : Int) + (root : Int)), .int .i64 ((first : Int) + (2 * (root : Int) + 1))] (putRowK enc k (Sort.ahead w m) blk off dk) fun e w' => e = .returned (.bool true) ∧ ∃ q, w' = putRowK enc k (Sort.ahead w (m + q)) blk off dk := fun m => by
              have := HL.out m (first + root) (first + (2 * root + 1)) (by omega) (by omega)
              rw [hG, show ((first + root : Nat) : Int) = (first : Int) + (root : Int) by omega, show ((first + (2 * root + 1) : Nat) : Int) = (first : Int) + (2 * (root : Int) + 1) by omega] at this
              exact this
            have hs : ∀ m, Calls P gs #[rv', .int .i64 ((first : Int) + (root : Int)), .int .i64 ((first : Int) + (2 * (root : Int) + 1))] (putRowK enc k (Sort.ahead w m) blk off dk) fun e w' => e = .returned (.tuple #[]) ∧ ∃ q, w' = putRowK enc k (Sort.ahead w (m + q)) blk off (swp dk (first + root) (first + (2 * root + 1))) := fun m => by
              have := HS.out m (first + root) (first + (2 * root + 1)) (by omega) (by omega)
              rw [show ((first + root : Nat) : Int) = (first : Int) + (root : Int) by omega, show ((first + (2 * root + 1) : Nat) : Int) = (first : Int) + (2 * (root : Int) + 1) by omega] at this
              exact this
            clear HL HS
            go_wp2_with (first | (go_at_fn gl; refine hl1.mono ?_; rintro e w' ⟨rfl, q1, rfl⟩) | (go_at_fn gl; refine (hl2 _).mono ?_; rintro e w' ⟨rfl, q2, rfl⟩) | (go_at_fn gs; refine (hs _).mono ?_; rintro e w' ⟨rfl, q3, rfl⟩))
            go_roundg (hi - (2 * root + 1))
            case measure => omega
            case rel => exact ⟨2 * root + 1, swp dk (first + root) (first + (2 * root + 1)), _, by go_num, by omega, Nat.le_refl _, by rw [size_swp]; exact hds, rfl, (show Hid _ from by rw [← HE.out, sd_left_go lt dk (by omega) (fun _ => hL) hG]; exact rfl)⟩
          | false =>
            have hl2 : ∀ m, Calls P gl #[rv', .int .i64 ((first : Int) + (root : Int)), .int .i64 ((first : Int) + (2 * (root : Int) + 1))] (putRowK enc k (Sort.ahead w m) blk off dk) fun e w' => e = .returned (.bool false) ∧ ∃ q, w' = putRowK enc k (Sort.ahead w (m + q)) blk off dk := fun m => by
              have := HL.out m (first + root) (first + (2 * root + 1)) (by omega) (by omega)
              rw [hG, show ((first + root : Nat) : Int) = (first : Int) + (root : Int) by omega, show ((first + (2 * root + 1) : Nat) : Int) = (first : Int) + (2 * (root : Int) + 1) by omega] at this
              exact this
            clear HL HS
            go_wp2_with (first | (go_at_fn gl; refine hl1.mono ?_; rintro e w' ⟨rfl, q1, rfl⟩) | (go_at_fn gl; refine (hl2 _).mono ?_; rintro e w' ⟨rfl, q2, rfl⟩))
            (try simp only [Exit.inBlock, Exit.then]); refine bodyPost_ret (results_none rfl _ _ _) rfl ?_
            refine ⟨rfl, ?_⟩
            rw [← HE.out, sd_left_stop lt dk (by omega) (fun _ => hL) hG]
            exact ⟨_, rfl⟩
      · -- no right child
        have h1z : ¬ (2 * (root : Int) + 1 + 1 < (hi : Int)) := by omega
        cases hG : lt dk[first + root]! dk[first + (2 * root + 1)]! with
        | true =>
          have hl2 : ∀ m, Calls P gl #[rv', .int .i64 ((first : Int) + (root : Int)), .int .i64 ((first : Int) + (2 * (root : Int) + 1))] (putRowK enc k (Sort.ahead w m) blk off dk) fun e w' => e = .returned (.bool true) ∧ ∃ q, w' = putRowK enc k (Sort.ahead w (m + q)) blk off dk := fun m => by
            have := HL.out m (first + root) (first + (2 * root + 1)) (by omega) (by omega)
            rw [hG, show ((first + root : Nat) : Int) = (first : Int) + (root : Int) by omega, show ((first + (2 * root + 1) : Nat) : Int) = (first : Int) + (2 * (root : Int) + 1) by omega] at this
            exact this
          have hs : ∀ m, Calls P gs #[rv', .int .i64 ((first : Int) + (root : Int)), .int .i64 ((first : Int) + (2 * (root : Int) + 1))] (putRowK enc k (Sort.ahead w m) blk off dk) fun e w' => e = .returned (.tuple #[]) ∧ ∃ q, w' = putRowK enc k (Sort.ahead w (m + q)) blk off (swp dk (first + root) (first + (2 * root + 1))) := fun m => by
            have := HS.out m (first + root) (first + (2 * root + 1)) (by omega) (by omega)
            rw [show ((first + root : Nat) : Int) = (first : Int) + (root : Int) by omega, show ((first + (2 * root + 1) : Nat) : Int) = (first : Int) + (2 * (root : Int) + 1) by omega] at this
            exact this
          clear HL HS
          go_wp2_with (first | (go_at_fn gl; refine (hl2 _).mono ?_; rintro e w' ⟨rfl, q2, rfl⟩) | (go_at_fn gs; refine (hs _).mono ?_; rintro e w' ⟨rfl, q3, rfl⟩))
          go_roundg (hi - (2 * root + 1))
          case measure => omega
          case rel => exact ⟨2 * root + 1, swp dk (first + root) (first + (2 * root + 1)), _, by go_num, by omega, Nat.le_refl _, by rw [size_swp]; exact hds, rfl, (show Hid _ from by rw [← HE.out, sd_left_go lt dk (by omega) (fun h => absurd h h1) hG]; exact rfl)⟩
        | false =>
          have hl2 : ∀ m, Calls P gl #[rv', .int .i64 ((first : Int) + (root : Int)), .int .i64 ((first : Int) + (2 * (root : Int) + 1))] (putRowK enc k (Sort.ahead w m) blk off dk) fun e w' => e = .returned (.bool false) ∧ ∃ q, w' = putRowK enc k (Sort.ahead w (m + q)) blk off dk := fun m => by
            have := HL.out m (first + root) (first + (2 * root + 1)) (by omega) (by omega)
            rw [hG, show ((first + root : Nat) : Int) = (first : Int) + (root : Int) by omega, show ((first + (2 * root + 1) : Nat) : Int) = (first : Int) + (2 * (root : Int) + 1) by omega] at this
            exact this
          clear HL HS
          go_wp2_with (first | (go_at_fn gl; refine (hl2 _).mono ?_; rintro e w' ⟨rfl, q2, rfl⟩))
          (try simp only [Exit.inBlock, Exit.then]); refine bodyPost_ret (results_none rfl _ _ _) rfl ?_
          refine ⟨rfl, ?_⟩
          rw [← HE.out, sd_left_stop lt dk (by omega) (fun h => absurd h h1) hG]
          exact ⟨_, rfl⟩

/-- sort.siftDown, from a world to a 'sortWorld' of it. -/
theorem siftDown_iface_wP (L : LaysGt.n43 P ρ) (T : TypeId) (rv : Value) (gl gs : Nat) (rL : ReachesP P T rv rv' pr po pSL "Less" gl) (rS : ReachesP P T rv rv' pr po pSL "Swap" gs) (enc : α → List Value) (k : Nat) (hk : ∀ x, (enc x).length = k) (lt : α → α → Bool) (blk off lo hi first : Nat) (d : Array α) (w : World) [kp0 : Kept pr po pSL blk w]
    (hless : LessMK P gl rv' enc k lt blk off d.size w) (hswap : SwapMK P gs rv' enc k blk off d.size) (hH : HoldsK enc k w blk off d) (hlo : lo ≤ hi) (hb : first + hi ≤ d.size) (hsz : d.size < 4611686018427387904) :
    Calls P (ρ.f 43) #[.iface T rv, .int .i64 lo, .int .i64 hi, .int .i64 first] w fun e w' => e = .returned (.tuple #[]) ∧ ∃ n os, w' = sortWorldK enc k w blk off n (siftDown lt hi first lo d) os :=
  (siftDown_ifaceP L T rv gl gs rL rS enc k hk lt blk off lo hi first d w hless hswap hH hlo hb hsz).mono fun _ _ ⟨he, n, hw⟩ => ⟨he, n, _, hw.trans (sortWorldK_plain enc k w blk off n _)⟩


set_option maxHeartbeats 4000000 in
set_option maxRecDepth 1000000 in
theorem heapSort_iface_wP (L : LaysGt.n34 P ρ) (T : TypeId) (rv : Value) (gl gs : Nat) (rL : ReachesP P T rv rv' pr po pSL "Less" gl) (rS : ReachesP P T rv rv' pr po pSL "Swap" gs) (enc : α → List Value) (k : Nat) (hk : ∀ x, (enc x).length = k) (lt : α → α → Bool) (blk off a b : Nat) (d : Array α) (w : World) [kp0 : Kept pr po pSL blk w]
    (hless : LessMK P gl rv' enc k lt blk off d.size w) (hswap : SwapMK P gs rv' enc k blk off d.size) (hH : HoldsK enc k w blk off d) (hblk : blk < w.heap.size) (hab : a ≤ b) (hb : b ≤ d.size) (hsz : d.size < 4611686018427387904) :
    Calls P (ρ.f 34) #[.iface T rv, .int .i64 a, .int .i64 b] w fun e w' => e = .returned (.tuple #[]) ∧ ∃ n os, w' = sortWorldK enc k w blk off n (heapSort lt d a b) os := by
  have mixed := L.mixed; have t0 := L.t0; have a0 := L.a0; have z0 := L.z0; have v0 := L.v0; have t3 := L.t3; have a3 := L.a3; have z3 := L.z3; have v3 := L.v3; have t4 := L.t4; have a4 := L.a4; have z4 := L.z4; have v4 := L.v4; have t26 := L.t26; have a26 := L.a26; have z26 := L.z26; have v26 := L.v26; have t38 := L.t38; have a38 := L.a38; have z38 := L.z38; have v38 := L.v38; have t43 := L.t43; have a43 := L.a43; have z43 := L.z43; have v43 := L.v43; have t45 := L.t45; have a45 := L.a45; have z45 := L.z45; have v45 := L.v45
  -- (the walk's simp unfolds 'Made.depth' to 100: the two facts are laid in that form)
  have mL : ∀ (w : World) [Kept pr po pSL blk w], Sem.run P (method (P.types.size + 100) T rv "Less") w = .ok (gl, rv') w := fun w kp => rL.finds w kp.cell
  have mS : ∀ (w : World) [Kept pr po pSL blk w], Sem.run P (method (P.types.size + 100) T rv "Swap") w = .ok (gs, rv') w := fun w kp => rS.finds w kp.cell
  have eL := rL.enters; have eS := rS.enters
  have e43 : ∀ args w, (callFunc (ρ.f 43) args).run P w = .ok (.enter (ρ.f 43) args) w := enters_of L.f43 (by kernel_rfl) rfl
  have ecast : ((b - a : Nat) : Int) = (b : Int) - (a : Int) := by omega
  go_enter L.f34, BodyGt.n34_ntmps ρ
  go_wp2
  go_loopg [9] ((b - a - 1) / 2 + 1) (fun kx s9 wr => s9 = .int .i64 ((kx : Int) - 1) ∧ kx ≤ (b - a - 1) / 2 + 1 ∧ ∃ (dk : Array α), dk.size = d.size ∧ Aside (SWK enc k w blk off dk wr) ∧
    Hid (heapBuild lt (b - a) a kx dk = heapBuild lt (b - a) a ((b - a - 1) / 2 + 1) d))
  case atStart => exact ⟨by rw [half_start hab], Nat.le_refl _, d, rfl, SWK.start hH, rfl⟩
  case round =>
    obtain ⟨rfl, hkk, dk, hds, S, HE⟩ := hrel
    have kz : Kept pr po pSL blk wr := SWK.kept S.out
    cases gk with
    | zero =>
      -- THE HEAP IS BUILT; NOW THE GREATEST IS TAKEN OFF, TIME AND AGAIN
      have hB : dk = heapBuild lt (b - a) a ((b - a - 1) / 2 + 1) d := HE.out
      clear HE hkk
      go_wp2
      go_loopg [10] (b - a) (fun kx s10 wr2 => s10 = .int .i64 ((kx : Int) - 1) ∧ kx ≤ b - a ∧ ∃ (dj : Array α), dj.size = d.size ∧ Aside (SWK enc k w blk off dj wr2) ∧ Hid (heapPop lt a kx dj = heapPop lt a (b - a) dk))
      case atStart => exact ⟨by rw [ecast], Nat.le_refl _, dk, hds, S, rfl⟩
      case round =>
        clear S
        obtain ⟨rfl, hkk, dj, hdj, S, HE2⟩ := hrel
        have kz : Kept pr po pSL blk wr := SWK.kept S.out
        cases gk with
        | zero =>
          go_wp2
          go_end0
          have e : dj = heapSort lt d a b := by rw [heapSort, ← hB, ← HE2.out]; rfl
          rw [← e]
          exact ⟨rfl, S.out⟩
        | succ kx =>
          -- 'data.Swap(first, first+i)'; 'siftDown(data, lo, i, first)'
          have hs := hswap wr dj (S.out.holds hblk hH hdj) hdj a (a + kx) (by omega) (by omega)
          rw [show ((a + kx : Nat) : Int) = (a : Int) + (kx : Int) by omega] at hs
          have S2 := S.out.swap hk hblk a (a + kx) (by omega) (by omega)
          have hd2 : (swp dj a (a + kx)).size = d.size := by rw [size_swp]; exact hdj
          have kz2 := SWK.kept (pr := pr) (po := po) (pSL := pSL) S2
          generalize (wr.setCells blk (off + a * k) (enc dj[a + kx]!)).setCells blk (off + (a + kx) * k) (enc dj[a]!) = w2 at hs S2 kz2
          have hcall := fun q => siftDown_iface_wP (P := P) (ρ := ρ) { L with } T rv gl gs rL rS enc k hk lt blk off 0 kx a (swp dj a (a + kx)) (w2.drewN q) (by rw [hd2]; exact (S2.drewN q).lessMs hless hblk hd2) (by rw [hd2]; exact hswap) ((S2.drewN q).holds hblk hH hd2) (Nat.zero_le _) (by rw [hd2]; omega) (by rw [hd2]; exact hsz)
          have S2' : Aside (SWK enc k w blk off (swp dj a (a + kx)) w2) := S2
          clear S2 S hless hswap hH
          go_wp2_with (first | (go_at_fn gs; refine hs.mono ?_; rintro e w' ⟨rfl, q, rfl⟩) | (go_at_fn (ρ.f 43); refine (hcall _).mono ?_; rintro e w1 ⟨rfl, m, os, rfl⟩))
          go_roundg kx
          case measure => omega
          case rel =>
            have hss : (siftDown lt kx a 0 (swp dj a (a + kx))).size = (swp dj a (a + kx)).size := size_siftDown lt _ _ _ _ _ (Nat.le_refl _)
            exact ⟨by simp, by omega, siftDown lt kx a 0 (swp dj a (a + kx)), by rw [hss, hd2], (S2'.out.drewN q).on hblk m _ os hss, HE2⟩
    | succ kx =>
      have hcall := siftDown_iface_wP (P := P) (ρ := ρ) { L with } T rv gl gs rL rS enc k hk lt blk off kx (b - a) a dk wr (by rw [hds]; exact S.out.lessMs hless hblk hds) (by rw [hds]; exact hswap) (S.out.holds hblk hH hds) (by omega) (by omega) (by omega)
      rw [ecast] at hcall
      clear hless hswap hH
      go_wp2_with (go_at_fn (ρ.f 43); refine hcall.mono ?_; rintro e w1 ⟨rfl, m, os, rfl⟩)
      go_roundg kx
      case measure => omega
      case rel =>
        have hss : (siftDown lt (b - a) a kx dk).size = dk.size := size_siftDown lt _ _ _ _ _ (Nat.le_refl _)
        exact ⟨by simp, by omega, siftDown lt (b - a) a kx dk, by rw [hss, hds], S.out.on hblk m _ os hss, HE⟩


set_option maxHeartbeats 16000000 in
set_option maxRecDepth 1000000 in
theorem partialInsertionSort_ifaceP (L : LaysGt.n38 P ρ) (T : TypeId) (rv : Value) (gl gs : Nat) (rL : ReachesP P T rv rv' pr po pSL "Less" gl) (rS : ReachesP P T rv rv' pr po pSL "Swap" gs) (enc : α → List Value) (k : Nat) (hk : ∀ x, (enc x).length = k) (lt : α → α → Bool) (blk off a b : Nat) (d : Array α) (w : World) [kp0 : Kept pr po pSL blk w]
    (hless : LessMK P gl rv' enc k lt blk off d.size w) (hswap : SwapMK P gs rv' enc k blk off d.size) (hH : HoldsK enc k w blk off d) (hab : a < b) (hb : b ≤ d.size) (hsz : d.size < 4611686018427387904) :
    Calls P (ρ.f 38) #[.iface T rv, .int .i64 a, .int .i64 b] w fun e w' =>
      e = .returned (.bool (Sort.partialInsertionSort lt d a b).2) ∧ ∃ n, w' = putRowK enc k (Sort.ahead w n) blk off (Sort.partialInsertionSort lt d a b).1 := by
  have mixed := L.mixed; have t0 := L.t0; have a0 := L.a0; have z0 := L.z0; have v0 := L.v0; have t3 := L.t3; have a3 := L.a3; have z3 := L.z3; have v3 := L.v3; have t4 := L.t4; have a4 := L.a4; have z4 := L.z4; have v4 := L.v4; have t26 := L.t26; have a26 := L.a26; have z26 := L.z26; have v26 := L.v26; have t38 := L.t38; have a38 := L.a38; have z38 := L.z38; have v38 := L.v38; have t43 := L.t43; have a43 := L.a43; have z43 := L.z43; have v43 := L.v43; have t45 := L.t45; have a45 := L.a45; have z45 := L.z45; have v45 := L.v45
  -- (the walk's simp unfolds 'Made.depth' to 100: the two facts are laid in that form)
  have mL : ∀ (w : World) [Kept pr po pSL blk w], Sem.run P (method (P.types.size + 100) T rv "Less") w = .ok (gl, rv') w := fun w kp => rL.finds w kp.cell
  have mS : ∀ (w : World) [Kept pr po pSL blk w], Sem.run P (method (P.types.size + 100) T rv "Swap") w = .ok (gs, rv') w := fun w kp => rS.finds w kp.cell
  have eL := rL.enters; have eS := rS.enters
  -- 'Less' at (j, j-1), 'Swap' at (j, j-1): whatever the row holds, however many draws on: IN THE FORM IN WHICH THE WALK MEETS THEM
  have hlAt : ∀ (X : Array α) (j : Nat) (v : Bool), X.size = d.size → 1 ≤ j → j < d.size → lt X[j]! X[j - 1]! = v → ∀ m, Calls P gl #[rv', .int .i64 (j : Int), .int .i64 ((j : Int) - 1)] (putRowK enc k (Sort.ahead w m) blk off X) fun e w' => e = .returned (.bool v) ∧ ∃ q, w' = putRowK enc k (Sort.ahead w (m + q)) blk off X := fun X j v hX h1 hj hv m => by
    have hl := hless m #[] X hX j (j - 1) hj (by omega)
    rw [← sortWorldK_plain, hv, show ((j - 1 : Nat) : Int) = (j : Int) - 1 by omega] at hl
    exact hl.mono fun e w' ⟨he, q, hq⟩ => ⟨he, q, by rw [hq]; exact drewN_worldK enc k rfl q⟩
  have hsAt : ∀ (X : Array α) (j : Nat), X.size = d.size → 1 ≤ j → j < d.size → ∀ m, Calls P gs #[rv', .int .i64 (j : Int), .int .i64 ((j : Int) - 1)] (putRowK enc k (Sort.ahead w m) blk off X) fun e w' => e = .returned (.tuple #[]) ∧ ∃ q, w' = putRowK enc k (Sort.ahead w (m + q)) blk off (swp X j (j - 1)) := fun X j hX h1 hj m => by
    have := hswap _ X (holdsK_putRowK enc k _ blk off d X (holdsK_ahead enc k _ m blk off d hH) hX) hX j (j - 1) hj (by omega)
    rw [show ((j - 1 : Nat) : Int) = (j : Int) - 1 by omega] at this
    exact this.mono fun e w' ⟨he, q, hq⟩ => ⟨he, q, by rw [hq]; exact swapM_worldK enc k hk w m q blk off X j (j - 1) (by omega) (by omega)⟩
  have HL : Aside _ := hlAt
  have HS : Aside _ := hsAt
  have HST : Hid (w = putRowK enc k (Sort.ahead w 0) blk off d) := (putRowK_self enc k _ blk off d hH).symm
  clear hlAt hsAt hless hswap hH
  go_enter L.f38, BodyGt.n38_ntmps ρ
  go_wp2
  go_loopg [7, 8] 5 (fun g1 vi vs wr => ∃ (i s n : Nat) (dk : Array α), vi = .int .i64 i ∧ vs = .int .i64 s ∧ s ≤ 5 ∧ 5 - s ≤ g1 ∧ a < i ∧ i ≤ b ∧ dk.size = d.size ∧ wr = putRowK enc k (Sort.ahead w n) blk off dk ∧ Hid (partialIns lt a b (5 - s) i dk = partialIns lt a b 5 (a + 1) d))
  case atStart => exact ⟨a + 1, 0, 0, d, by go_num, rfl, by omega, by omega, by omega, by omega, rfl, HST.out, rfl⟩
  case round =>
    obtain ⟨i, s, n, dk, rfl, rfl, hs5, hg1, hai, hib, hsk, rfl, HO⟩ := hrel
    by_cases hs : s < 5
    · have hsz5 : (s : Int) < 5 := by omega
      go_wp2
      -- the scan: 'for i < b && !data.Less(i, i-1) { i++ }'
      go_loopg [7] (b - i) (fun g2 vi wr2 => ∃ (kx m : Nat), vi = .int .i64 kx ∧ i ≤ kx ∧ kx ≤ b ∧ b - kx ≤ g2 ∧ wr2 = putRowK enc k (Sort.ahead w m) blk off dk ∧ Hid (scanSorted lt dk b kx = scanSorted lt dk b i))
      case atStart => exact ⟨i, n, rfl, Nat.le_refl _, hib, Nat.le_refl _, rfl, rfl⟩
      case round =>
        obtain ⟨kx, m, rfl, hik, hkb, hg2, rfl, HSc⟩ := hrel
        by_cases hkb' : kx < b
        · have hkz : (kx : Int) < (b : Int) := by omega
          cases hlv : lt dk[kx]! dk[kx - 1]! with
          | false =>
            have hl := HL.out dk kx false hsk (by omega) (by omega) hlv
            go_wp2_with (first | (go_at_fn gl; refine (hl _).mono ?_; rintro e w' ⟨rfl, q, rfl⟩))
            go_roundg (b - (kx + 1))
            case measure => omega
            case rel => exact ⟨kx + 1, _, by go_num, by omega, by omega, Nat.le_refl _, rfl, (show Hid _ from by rw [← HSc.out, scanSorted_go lt dk b kx hkb' hlv]; exact rfl)⟩
          | true =>
            -- a pair out of order, at kx
            have hl := HL.out dk kx true hsk (by omega) (by omega) hlv
            have HK : Hid (scanSorted lt dk b i = kx) := by show _ = _; rw [← HSc.out, scanSorted_stop lt dk b kx (Or.inr hlv)]
            have hkne : ((kx : Int) == (b : Int)) = false := beq_eq_false_iff_ne.2 (by omega)
            by_cases h50 : b - a < 50
            · have h50z : (b : Int) - (a : Int) < 50 := by omega
              go_wp2_with (first | (go_at_fn gl; refine (hl _).mono ?_; rintro e w' ⟨rfl, q, rfl⟩))
              have hv : Sort.partialInsertionSort lt d a b = (dk, false) := by
                unfold Sort.partialInsertionSort
                rw [← HO.out, pi_short lt a b s i dk hs (by rw [HK.out]; omega) h50]
              rw [hv]
              go_ret
              exact ⟨rfl, _, rfl⟩
            · have h50z : ¬ ((b : Int) - (a : Int) < 50) := by omega
              have hs1 := HS.out dk kx hsk (by omega) (by omega)
              have hX1 : (swp dk kx (kx - 1)).size = d.size := by rw [size_swp]; exact hsk
              by_cases hka : kx - a ≥ 2
              · -- i - a >= 2: the smaller one goes down
                have hkaz : (2 : Int) ≤ (kx : Int) - (a : Int) := by omega
                go_wp2_with (first | (go_at_fn gl; refine (hl _).mono ?_; rintro e w' ⟨rfl, q, rfl⟩) | (go_at_fn gs; refine (hs1 _).mono ?_; rintro e w' ⟨rfl, qs, rfl⟩))
                go_loopg [9] (kx - 1) (fun g3 vj wr3 => ∃ (j m2 : Nat) (dj : Array α), vj = .int .i64 j ∧ j ≤ kx - 1 ∧ j ≤ g3 ∧ dj.size = d.size ∧ wr3 = putRowK enc k (Sort.ahead w m2) blk off dj ∧ Hid (shiftDown lt j dj = shiftDown lt (kx - 1) (swp dk kx (kx - 1))))
                case atStart => exact ⟨kx - 1, _, (swp dk kx (kx - 1)), by congr 1; omega, Nat.le_refl _, Nat.le_refl _, hX1, rfl, rfl⟩
                case round =>
                  obtain ⟨j, m2, dj, rfl, hjk, hg3, hsj, rfl, HDn⟩ := hrel
                  by_cases hj1 : 1 ≤ j
                  · have hj1z : (1 : Int) ≤ (j : Int) := by omega
                    cases hlv2 : lt dj[j]! dj[j - 1]! with
                    | true =>
                      have hl2 := HL.out dj j true hsj hj1 (by omega) hlv2
                      have hs2 := HS.out dj j hsj hj1 (by omega)
                      go_wp2_with (first | (go_at_fn gl; refine (hl2 _).mono ?_; rintro e w' ⟨rfl, q, rfl⟩) | (go_at_fn gs; refine (hs2 _).mono ?_; rintro e w' ⟨rfl, qs, rfl⟩))
                      go_roundg (j - 1)
                      case measure => omega
                      case rel => exact ⟨j - 1, _, swp dj j (j - 1), by congr 1; omega, by omega, Nat.le_refl _, by rw [size_swp]; exact hsj, rfl, (show Hid _ from by rw [← HDn.out, shiftDown_go lt j dj hj1 hlv2]; exact rfl)⟩
                    | false =>
                      -- break
                      have hl2 := HL.out dj j false hsj hj1 (by omega) hlv2
                      have HD : Hid (fixDown lt a kx (swp dk kx (kx - 1)) = dj) := by show _ = _; unfold fixDown; rw [if_pos hka, ← HDn.out, shiftDown_stop lt j dj (Or.inr hlv2)]
                      by_cases hbk : b - kx ≥ 2
                      · -- b - i >= 2: the greater one goes up
                        have hbkz : (2 : Int) ≤ (b : Int) - (kx : Int) := by omega
                        go_wp2_with (first | (go_at_fn gl; refine (hl2 _).mono ?_; rintro e w' ⟨rfl, q, rfl⟩))
                        go_loopg [10] (b - (kx + 1)) (fun g4 vj wr4 => ∃ (ju m3 : Nat) (du : Array α), vj = .int .i64 ju ∧ kx + 1 ≤ ju ∧ ju ≤ b ∧ b - ju ≤ g4 ∧ du.size = d.size ∧ wr4 = putRowK enc k (Sort.ahead w m3) blk off du ∧ Hid (shiftUp lt b ju du = shiftUp lt b (kx + 1) dj))
                        case atStart => exact ⟨kx + 1, _, dj, by go_num, Nat.le_refl _, by omega, Nat.le_refl _, hsj, rfl, rfl⟩
                        case round =>
                          obtain ⟨ju, m3, du, rfl, hkj, hjb, hg4, hsu, rfl, HU⟩ := hrel
                          by_cases hjb' : ju < b
                          · have hjz : (ju : Int) < (b : Int) := by omega
                            cases hlv3 : lt du[ju]! du[ju - 1]! with
                            | true =>
                              have hl3 := HL.out du ju true hsu (by omega) (by omega) hlv3
                              have hs3 := HS.out du ju hsu (by omega) (by omega)
                              go_wp2_with (first | (go_at_fn gl; refine (hl3 _).mono ?_; rintro e w' ⟨rfl, q, rfl⟩) | (go_at_fn gs; refine (hs3 _).mono ?_; rintro e w' ⟨rfl, qs, rfl⟩))
                              go_roundg (b - (ju + 1))
                              case measure => omega
                              case rel => exact ⟨ju + 1, _, swp du ju (ju - 1), by go_num, by omega, by omega, Nat.le_refl _, by rw [size_swp]; exact hsu, rfl, (show Hid _ from by rw [← HU.out, shiftUp_go lt b ju du hjb' hlv3]; exact rfl)⟩
                            | false =>
                              have hl3 := HL.out du ju false hsu (by omega) (by omega) hlv3
                              go_wp2_with (first | (go_at_fn gl; refine (hl3 _).mono ?_; rintro e w' ⟨rfl, q, rfl⟩))
                              go_roundg (5 - (s + 1))
                              case measure => omega
                              case rel => exact ⟨kx, s + 1, _, du, rfl, by go_num, by omega, Nat.le_refl _, by omega, by omega, hsu, rfl, (show Hid _ from by rw [← HO.out, pi_go lt a b s i kx dk hs HK.out (by omega) h50, HD.out, show fixUp lt b kx dj = du from by unfold fixUp; rw [if_pos hbk, ← HU.out, shiftUp_stop lt b ju du (Or.inr hlv3)]]; exact rfl)⟩
                          · have hjz : ¬ (ju : Int) < (b : Int) := by omega
                            go_wp2
                            go_roundg (5 - (s + 1))
                            case measure => omega
                            case rel => exact ⟨kx, s + 1, _, du, rfl, by go_num, by omega, Nat.le_refl _, by omega, by omega, hsu, rfl, (show Hid _ from by rw [← HO.out, pi_go lt a b s i kx dk hs HK.out (by omega) h50, HD.out, show fixUp lt b kx dj = du from by unfold fixUp; rw [if_pos hbk, ← HU.out, shiftUp_stop lt b ju du (Or.inl hjb')]]; exact rfl)⟩
                      · have hbkz : ¬ (2 : Int) ≤ (b : Int) - (kx : Int) := by omega
                        go_wp2_with (first | (go_at_fn gl; refine (hl2 _).mono ?_; rintro e w' ⟨rfl, q, rfl⟩))
                        go_roundg (5 - (s + 1))
                        case measure => omega
                        case rel => exact ⟨kx, s + 1, _, dj, rfl, by go_num, by omega, Nat.le_refl _, by omega, by omega, hsj, rfl, (show Hid _ from by rw [← HO.out, pi_go lt a b s i kx dk hs HK.out (by omega) h50, HD.out, show fixUp lt b kx dj = dj from by unfold fixUp; rw [if_neg hbk]]; exact rfl)⟩
                  · have hj1z : ¬ (1 : Int) ≤ (j : Int) := by omega
                    have HD : Hid (fixDown lt a kx (swp dk kx (kx - 1)) = dj) := by show _ = _; unfold fixDown; rw [if_pos hka, ← HDn.out, shiftDown_stop lt j dj (Or.inl (by omega))]
                    by_cases hbk : b - kx ≥ 2
                    · -- b - i >= 2: the greater one goes up
                      have hbkz : (2 : Int) ≤ (b : Int) - (kx : Int) := by omega
                      go_wp2
                      go_loopg [10] (b - (kx + 1)) (fun g4 vj wr4 => ∃ (ju m3 : Nat) (du : Array α), vj = .int .i64 ju ∧ kx + 1 ≤ ju ∧ ju ≤ b ∧ b - ju ≤ g4 ∧ du.size = d.size ∧ wr4 = putRowK enc k (Sort.ahead w m3) blk off du ∧ Hid (shiftUp lt b ju du = shiftUp lt b (kx + 1) dj))
                      case atStart => exact ⟨kx + 1, _, dj, by go_num, Nat.le_refl _, by omega, Nat.le_refl _, hsj, rfl, rfl⟩
                      case round =>
                        obtain ⟨ju, m3, du, rfl, hkj, hjb, hg4, hsu, rfl, HU⟩ := hrel
                        by_cases hjb' : ju < b
                        · have hjz : (ju : Int) < (b : Int) := by omega
                          cases hlv3 : lt du[ju]! du[ju - 1]! with
                          | true =>
                            have hl3 := HL.out du ju true hsu (by omega) (by omega) hlv3
                            have hs3 := HS.out du ju hsu (by omega) (by omega)
                            go_wp2_with (first | (go_at_fn gl; refine (hl3 _).mono ?_; rintro e w' ⟨rfl, q, rfl⟩) | (go_at_fn gs; refine (hs3 _).mono ?_; rintro e w' ⟨rfl, qs, rfl⟩))
                            go_roundg (b - (ju + 1))
                            case measure => omega
                            case rel => exact ⟨ju + 1, _, swp du ju (ju - 1), by go_num, by omega, by omega, Nat.le_refl _, by rw [size_swp]; exact hsu, rfl, (show Hid _ from by rw [← HU.out, shiftUp_go lt b ju du hjb' hlv3]; exact rfl)⟩
                          | false =>
                            have hl3 := HL.out du ju false hsu (by omega) (by omega) hlv3
                            go_wp2_with (first | (go_at_fn gl; refine (hl3 _).mono ?_; rintro e w' ⟨rfl, q, rfl⟩))
                            go_roundg (5 - (s + 1))
                            case measure => omega
                            case rel => exact ⟨kx, s + 1, _, du, rfl, by go_num, by omega, Nat.le_refl _, by omega, by omega, hsu, rfl, (show Hid _ from by rw [← HO.out, pi_go lt a b s i kx dk hs HK.out (by omega) h50, HD.out, show fixUp lt b kx dj = du from by unfold fixUp; rw [if_pos hbk, ← HU.out, shiftUp_stop lt b ju du (Or.inr hlv3)]]; exact rfl)⟩
                        · have hjz : ¬ (ju : Int) < (b : Int) := by omega
                          go_wp2
                          go_roundg (5 - (s + 1))
                          case measure => omega
                          case rel => exact ⟨kx, s + 1, _, du, rfl, by go_num, by omega, Nat.le_refl _, by omega, by omega, hsu, rfl, (show Hid _ from by rw [← HO.out, pi_go lt a b s i kx dk hs HK.out (by omega) h50, HD.out, show fixUp lt b kx dj = du from by unfold fixUp; rw [if_pos hbk, ← HU.out, shiftUp_stop lt b ju du (Or.inl hjb')]]; exact rfl)⟩
                    · have hbkz : ¬ (2 : Int) ≤ (b : Int) - (kx : Int) := by omega
                      go_wp2
                      go_roundg (5 - (s + 1))
                      case measure => omega
                      case rel => exact ⟨kx, s + 1, _, dj, rfl, by go_num, by omega, Nat.le_refl _, by omega, by omega, hsj, rfl, (show Hid _ from by rw [← HO.out, pi_go lt a b s i kx dk hs HK.out (by omega) h50, HD.out, show fixUp lt b kx dj = dj from by unfold fixUp; rw [if_neg hbk]]; exact rfl)⟩
              · have hkaz : ¬ (2 : Int) ≤ (kx : Int) - (a : Int) := by omega
                have HD : Hid (fixDown lt a kx (swp dk kx (kx - 1)) = (swp dk kx (kx - 1))) := by show _ = _; unfold fixDown; rw [if_neg hka]
                by_cases hbk : b - kx ≥ 2
                · -- b - i >= 2: the greater one goes up
                  have hbkz : (2 : Int) ≤ (b : Int) - (kx : Int) := by omega
                  go_wp2_with (first | (go_at_fn gl; refine (hl _).mono ?_; rintro e w' ⟨rfl, q, rfl⟩) | (go_at_fn gs; refine (hs1 _).mono ?_; rintro e w' ⟨rfl, qs, rfl⟩))
                  go_loopg [10] (b - (kx + 1)) (fun g4 vj wr4 => ∃ (ju m3 : Nat) (du : Array α), vj = .int .i64 ju ∧ kx + 1 ≤ ju ∧ ju ≤ b ∧ b - ju ≤ g4 ∧ du.size = d.size ∧ wr4 = putRowK enc k (Sort.ahead w m3) blk off du ∧ Hid (shiftUp lt b ju du = shiftUp lt b (kx + 1) (swp dk kx (kx - 1))))
                  case atStart => exact ⟨kx + 1, _, (swp dk kx (kx - 1)), by go_num, Nat.le_refl _, by omega, Nat.le_refl _, hX1, rfl, rfl⟩
                  case round =>
                    obtain ⟨ju, m3, du, rfl, hkj, hjb, hg4, hsu, rfl, HU⟩ := hrel
                    by_cases hjb' : ju < b
                    · have hjz : (ju : Int) < (b : Int) := by omega
                      cases hlv3 : lt du[ju]! du[ju - 1]! with
                      | true =>
                        have hl3 := HL.out du ju true hsu (by omega) (by omega) hlv3
                        have hs3 := HS.out du ju hsu (by omega) (by omega)
                        go_wp2_with (first | (go_at_fn gl; refine (hl3 _).mono ?_; rintro e w' ⟨rfl, q, rfl⟩) | (go_at_fn gs; refine (hs3 _).mono ?_; rintro e w' ⟨rfl, qs, rfl⟩))
                        go_roundg (b - (ju + 1))
                        case measure => omega
                        case rel => exact ⟨ju + 1, _, swp du ju (ju - 1), by go_num, by omega, by omega, Nat.le_refl _, by rw [size_swp]; exact hsu, rfl, (show Hid _ from by rw [← HU.out, shiftUp_go lt b ju du hjb' hlv3]; exact rfl)⟩
                      | false =>
                        have hl3 := HL.out du ju false hsu (by omega) (by omega) hlv3
                        go_wp2_with (first | (go_at_fn gl; refine (hl3 _).mono ?_; rintro e w' ⟨rfl, q, rfl⟩))
                        go_roundg (5 - (s + 1))
                        case measure => omega
                        case rel => exact ⟨kx, s + 1, _, du, rfl, by go_num, by omega, Nat.le_refl _, by omega, by omega, hsu, rfl, (show Hid _ from by rw [← HO.out, pi_go lt a b s i kx dk hs HK.out (by omega) h50, HD.out, show fixUp lt b kx (swp dk kx (kx - 1)) = du from by unfold fixUp; rw [if_pos hbk, ← HU.out, shiftUp_stop lt b ju du (Or.inr hlv3)]]; exact rfl)⟩
                    · have hjz : ¬ (ju : Int) < (b : Int) := by omega
                      go_wp2
                      go_roundg (5 - (s + 1))
                      case measure => omega
                      case rel => exact ⟨kx, s + 1, _, du, rfl, by go_num, by omega, Nat.le_refl _, by omega, by omega, hsu, rfl, (show Hid _ from by rw [← HO.out, pi_go lt a b s i kx dk hs HK.out (by omega) h50, HD.out, show fixUp lt b kx (swp dk kx (kx - 1)) = du from by unfold fixUp; rw [if_pos hbk, ← HU.out, shiftUp_stop lt b ju du (Or.inl hjb')]]; exact rfl)⟩
                · -- (i - a < 2 and b - i < 2, though b - a >= 50: there is no such way)
                  exfalso; omega
        · -- the scan has come to b: true
          obtain rfl : kx = b := by omega
          have hkz : ¬ (kx : Int) < (kx : Int) := by omega
          go_wp2
          have hv : Sort.partialInsertionSort lt d a kx = (dk, true) := by
            unfold Sort.partialInsertionSort
            rw [← HO.out, pi_true lt a kx s i dk hs (by rw [← HSc.out, scanSorted_stop lt dk kx kx (Or.inl (by omega))])]
          rw [hv]
          go_ret
          exact ⟨rfl, _, rfl⟩
    · -- five steps are done: false
      obtain rfl : s = 5 := by omega
      go_wp2
      have hv : Sort.partialInsertionSort lt d a b = (dk, false) := by
        unfold Sort.partialInsertionSort
        rw [← HO.out, pi_end]
      rw [hv]
      go_ret
      exact ⟨rfl, n, rfl⟩

/-- sort.partialInsertionSort, from a world to a 'sortWorld' of it. -/
theorem partialInsertionSort_iface_wP (L : LaysGt.n38 P ρ) (T : TypeId) (rv : Value) (gl gs : Nat) (rL : ReachesP P T rv rv' pr po pSL "Less" gl) (rS : ReachesP P T rv rv' pr po pSL "Swap" gs) (enc : α → List Value) (k : Nat) (hk : ∀ x, (enc x).length = k) (lt : α → α → Bool) (blk off a b : Nat) (d : Array α) (w : World) [kp0 : Kept pr po pSL blk w]
    (hless : LessMK P gl rv' enc k lt blk off d.size w) (hswap : SwapMK P gs rv' enc k blk off d.size) (hH : HoldsK enc k w blk off d) (hab : a < b) (hb : b ≤ d.size) (hsz : d.size < 4611686018427387904) :
    Calls P (ρ.f 38) #[.iface T rv, .int .i64 a, .int .i64 b] w fun e w' => e = .returned (.bool (Sort.partialInsertionSort lt d a b).2) ∧ ∃ n os, w' = sortWorldK enc k w blk off n (Sort.partialInsertionSort lt d a b).1 os :=
  (partialInsertionSort_ifaceP L T rv gl gs rL rS enc k hk lt blk off a b d w hless hswap hH hab hb hsz).mono fun _ _ ⟨he, n, hw⟩ => ⟨he, n, _, hw.trans (sortWorldK_plain enc k w blk off n _)⟩


set_option maxHeartbeats 4000000 in
set_option maxRecDepth 1000000 in
/-- The arm 'length >= 8', b written as a + L. -/
theorem breakPatterns_iface_goP (L' : LaysGt.n35 P ρ) (T : TypeId) (rv : Value) (gs : Nat) (rS : ReachesP P T rv rv' pr po pSL "Swap" gs) (enc : α → List Value) (k : Nat) (hk : ∀ x, (enc x).length = k) (blk off a L : Nat) (d : Array α) (w : World) [kp0 : Kept pr po pSL blk w]
    (hswap : SwapMK P gs rv' enc k blk off d.size) (hH : HoldsK enc k w blk off d) (hblk : blk < w.heap.size) (hb : a + L ≤ d.size) (hsz : d.size < 4611686018427387904) (h8 : 8 ≤ L) :
    Calls P (ρ.f 35) #[.iface T rv, .int .i64 a, .int .i64 ((a + L : Nat) : Int)] w fun e w' => e = .returned (.tuple #[]) ∧ ∃ n os, w' = sortWorldK enc k w blk off n (breakPatterns d a (a + L)) os := by
  have mixed := L'.mixed; have t0 := L'.t0; have a0 := L'.a0; have z0 := L'.z0; have v0 := L'.v0; have t3 := L'.t3; have a3 := L'.a3; have z3 := L'.z3; have v3 := L'.v3; have t4 := L'.t4; have a4 := L'.a4; have z4 := L'.z4; have v4 := L'.v4; have t5 := L'.t5; have a5 := L'.a5; have z5 := L'.z5; have v5 := L'.v5; have t9 := L'.t9; have a9 := L'.a9; have z9 := L'.z9; have v9 := L'.v9; have t26 := L'.t26; have a26 := L'.a26; have z26 := L'.z26; have v26 := L'.v26; have t38 := L'.t38; have a38 := L'.a38; have z38 := L'.z38; have v38 := L'.v38; have t43 := L'.t43; have a43 := L'.a43; have z43 := L'.z43; have v43 := L'.v43; have t45 := L'.t45; have a45 := L'.a45; have z45 := L'.z45; have v45 := L'.v45; have t47 := L'.t47; have a47 := L'.a47; have z47 := L'.z47; have v47 := L'.v47; have t56 := L'.t56; have a56 := L'.a56; have z56 := L'.z56; have v56 := L'.v56; have t58 := L'.t58; have a58 := L'.a58; have z58 := L'.z58; have v58 := L'.v58; have t67 := L'.t67; have a67 := L'.a67; have z67 := L'.z67; have v67 := L'.v67; have t73 := L'.t73; have a73 := L'.a73; have z73 := L'.z73; have v73 := L'.v73
  have mS : ∀ (w : World) [Kept pr po pSL blk w], Sem.run P (method (P.types.size + 100) T rv "Swap") w = .ok (gs, rv') w := fun w kp => rS.finds w kp.cell
  have eS := rS.enters
  have e44 : ∀ args w, (callFunc (ρ.f 44) args).run P w = .ok (.enter (ρ.f 44) args) w := enters_of L'.f44 (by kernel_rfl) rfl
  have e45 : ∀ args w, (callFunc (ρ.f 45) args).run P w = .ok (.enter (ρ.f 45) args) w := enters_of L'.f45 (by kernel_rfl) rfl
  rw [breakPatterns_eq d a L h8]
  obtain ⟨M, hM⟩ : ∃ M : Nat, M = 1 <<< bitsLen L := ⟨_, rfl⟩
  have hM1 : 1 ≤ M := by rw [hM, Nat.one_shiftLeft]; exact Nat.two_pow_pos _
  have hM2 : M ≤ 2 * L := by rw [hM, Nat.one_shiftLeft]; exact two_pow_bitsLen_le (by omega)
  have hNP : ∀ w, Calls P (ρ.f 44) #[.int .i64 (L : Int)] w fun e w' => e = .returned (.int .u64 (M : Int)) ∧ w' = w := by rw [hM]; exact fun w => Any.nextPowerOfTwo (LaysGt.n44.elder (P := P) (ρ := ρ) { L' with }) L (by omega) w
  rw [← hM]
  clear hM
  have hLz : ((a : Int) + (L : Int) - (a : Int)) = (L : Int) := by omega
  have h8z : (8 : Int) ≤ (L : Int) := by omega
  have hne : w.heap.size ≠ blk := by omega
  go_enter L'.f35, BodyGt.n35_ntmps ρ
  go_wp2_with (first | (go_at_fn (ρ.f 44); refine (hNP _).mono ?_; rintro e w' ⟨rfl, rfl⟩))
  go_loopg [9] 3 (fun g1 vi wr => ∃ (t : Nat) (r : UInt64) (dk : Array α), vi = .int .i64 ((a : Int) + (L : Int) / 4 * 2 - 1 + (t : Int)) ∧ t ≤ 3 ∧ 3 - t ≤ g1 ∧ dk.size = d.size ∧ Aside (SWK enc k w blk off dk wr) ∧
      wr.cell? ⟨w.heap.size, 0, none⟩ = some (.int .u64 (r.toNat : Int)) ∧ wr.frozen? ⟨w.heap.size, 0, none⟩ = false ∧
      Hid (bpRest a L M (a + L / 4 * 2 - 1) (3 - t) t (r, dk) = bpRest a L M (a + L / 4 * 2 - 1) 3 0 (UInt64.ofNat L, d)))
  case atStart =>
    refine ⟨0, UInt64.ofNat L, d, by simp, by omega, by omega, rfl, (SWK.start hH).alloc _, ?_, by simp, rfl⟩
    rw [show (UInt64.ofNat L).toNat = L from by simp; omega]
    simp
  case round =>
    obtain ⟨t, r, dk, rfl, ht, hg1, hds, S, cR, fR, HR⟩ := hrel
    have kz : Kept pr po pSL blk wr := SWK.kept S.out
    by_cases ht3 : t < 3
    · have hle : (a : Int) + (L : Int) / 4 * 2 - 1 + (t : Int) ≤ (a : Int) + (L : Int) / 4 * 2 + 1 := by omega
      -- this round's numbers under names of their own
      obtain ⟨R, hRr⟩ : ∃ R : Nat, R = r.toNat := ⟨_, rfl⟩
      have lR : R < 18446744073709551616 := by rw [hRr]; exact r.toNat_lt
      obtain ⟨R', hR'⟩ : ∃ R' : Nat, R' = xorNextN R := ⟨_, rfl⟩
      have lR' : R' < 18446744073709551616 := by rw [hR']; exact xorNextN_lt R lR
      obtain ⟨O, hO⟩ : ∃ O : Nat, O = R' &&& (M - 1) := ⟨_, rfl⟩
      have lO : O ≤ M - 1 := by rw [hO]; exact Nat.and_le_right
      have eAnd : bits .and .u64 (R' : Int) ((M : Int) - 1) = (O : Int) := by
        rw [show ((M : Int) - 1) = ((M - 1 : Nat) : Int) by omega, bits_and_u64_nat _ _ lR' (by omega), hO]
      rw [← hRr] at cR
      have hNext : Calls P (ρ.f 45) #[.pointer (some ⟨w.heap.size, 0, none⟩)] wr fun e w' => e = .returned (.int .u64 (R' : Int)) ∧ w' = (wr.setCell ⟨w.heap.size, 0, none⟩ (.int .u64 (R' : Int))).drewN 3 := by
        rw [hR']; exact Any.xorshift_Next (LaysGt.n45.elder (P := P) (ρ := ρ) { L' with }) _ _ R lR wr cR fR
      have HN : Hid (R' = (xorNext r).toNat ∧ O = (xorNext r).toNat &&& (M - 1)) := by
        have e : R' = (xorNext r).toNat := by rw [hR', hRr, xorNext_toNat]
        exact ⟨e, by rw [hO, e]⟩
      clear hRr hR' hO
      -- the world behind 'random.Next()'
      have S2 := (S.out.setCell_new w.heap.size 0 (.int .u64 (R' : Int)) (Nat.le_refl _)).drewN 3
      have kz2 := SWK.kept (pr := pr) (po := po) (pSL := pSL) S2
      have cR' : ((wr.setCell ⟨w.heap.size, 0, none⟩ (.int .u64 (R' : Int))).drewN 3).cell? ⟨w.heap.size, 0, none⟩ = some (.int .u64 (R' : Int)) := by
        rw [World.cell?_drewN]; exact World.cell?_setCell_same _ _ _ cR
      have fR' : ((wr.setCell ⟨w.heap.size, 0, none⟩ (.int .u64 (R' : Int))).drewN 3).frozen? ⟨w.heap.size, 0, none⟩ = false := by
        rw [World.frozen?_drewN]; simpa using fR
      generalize (wr.setCell ⟨w.heap.size, 0, none⟩ (.int .u64 (R' : Int))).drewN 3 = w2 at hNext S2 cR' fR' kz2
      -- what two stores into the row, and draws, leave of 'random'
      have keep : ∀ (x y : Nat) (u v : List Value), (∀ q, (((w2.setCells blk x u).setCells blk y v).drewN q).cell? ⟨w.heap.size, 0, none⟩ = some (.int .u64 (R' : Int))) ∧ (∀ q, (((w2.setCells blk x u).setCells blk y v).drewN q).frozen? ⟨w.heap.size, 0, none⟩ = false) := fun x y u v => by
        refine ⟨fun q => ?_, fun q => by rw [World.frozen?_drewN, World.frozen?_setCells, World.frozen?_setCells]; exact fR'⟩
        rw [World.cell?_drewN, World.cell?_setCells_out blk _ _ _ _ (fun e _ => absurd e (by show w.heap.size ≠ blk; omega)), World.cell?_setCells_out blk _ _ _ _ (fun e _ => absurd e (by show w.heap.size ≠ blk; omega))]; exact cR'
      clear cR fR
      by_cases hLO : L ≤ O
      · -- other >= length: other -= length
        have hLOz : (L : Int) ≤ (O : Int) := by omega
        have hs := hswap _ dk (S2.holds hblk hH hds) hds (a + L / 4 * 2 - 1 + t) (a + (O - L)) (by omega) (by omega)
        rw [show ((a + L / 4 * 2 - 1 + t : Nat) : Int) = (a : Int) + (L : Int) / 4 * 2 - 1 + (t : Int) by omega, show ((a + (O - L) : Nat) : Int) = (a : Int) + ((O : Int) - (L : Int)) by omega] at hs
        have S3 := S2.swap hk hblk (a + L / 4 * 2 - 1 + t) (a + (O - L)) (by omega) (by omega)
        have k1 := keep (off + (a + L / 4 * 2 - 1 + t) * k) (off + (a + (O - L)) * k) (enc dk[a + (O - L)]!) (enc dk[a + L / 4 * 2 - 1 + t]!)
        generalize ((w2.setCells blk (off + (a + L / 4 * 2 - 1 + t) * k) (enc dk[a + (O - L)]!)).setCells blk (off + (a + (O - L)) * k) (enc dk[a + L / 4 * 2 - 1 + t]!)) = w3 at hs S3 k1
        have S3' : Aside (SWK enc k w blk off (swp dk (a + L / 4 * 2 - 1 + t) (a + (O - L))) w3) := S3
        clear S3 S2 S hswap hH keep
        go_wp2_with (first | (go_at_fn (ρ.f 45); refine hNext.mono ?_; rintro e w' ⟨rfl, rfl⟩) | (go_at_fn gs; refine hs.mono ?_; rintro e w' ⟨rfl, q, rfl⟩))
        go_roundg (3 - (t + 1))
        case measure => omega
        case rel => exact ⟨t + 1, xorNext r, swp dk (a + L / 4 * 2 - 1 + t) (a + (O - L)), by congr 1; push_cast; omega, by omega, Nat.le_refl _, by rw [size_swp]; exact hds, S3'.out.drewN q, by rw [← HN.out.1]; exact k1.1 q, k1.2 q,
          (show Hid _ from by rw [← HR.out, bp_step a L M _ t r dk (O - L) ht3 (by rw [← HN.out.2, if_pos (by omega)])]; exact rfl)⟩
      · 
        have hLOz : ¬ (L : Int) ≤ (O : Int) := by omega
        have hs := hswap _ dk (S2.holds hblk hH hds) hds (a + L / 4 * 2 - 1 + t) (a + O) (by omega) (by omega)
        rw [show ((a + L / 4 * 2 - 1 + t : Nat) : Int) = (a : Int) + (L : Int) / 4 * 2 - 1 + (t : Int) by omega, show ((a + O : Nat) : Int) = (a : Int) + (O : Int) by omega] at hs
        have S3 := S2.swap hk hblk (a + L / 4 * 2 - 1 + t) (a + O) (by omega) (by omega)
        have k1 := keep (off + (a + L / 4 * 2 - 1 + t) * k) (off + (a + O) * k) (enc dk[a + O]!) (enc dk[a + L / 4 * 2 - 1 + t]!)
        generalize ((w2.setCells blk (off + (a + L / 4 * 2 - 1 + t) * k) (enc dk[a + O]!)).setCells blk (off + (a + O) * k) (enc dk[a + L / 4 * 2 - 1 + t]!)) = w3 at hs S3 k1
        have S3' : Aside (SWK enc k w blk off (swp dk (a + L / 4 * 2 - 1 + t) (a + O)) w3) := S3
        clear S3 S2 S hswap hH keep
        go_wp2_with (first | (go_at_fn (ρ.f 45); refine hNext.mono ?_; rintro e w' ⟨rfl, rfl⟩) | (go_at_fn gs; refine hs.mono ?_; rintro e w' ⟨rfl, q, rfl⟩))
        go_roundg (3 - (t + 1))
        case measure => omega
        case rel => exact ⟨t + 1, xorNext r, swp dk (a + L / 4 * 2 - 1 + t) (a + O), by congr 1; push_cast; omega, by omega, Nat.le_refl _, by rw [size_swp]; exact hds, S3'.out.drewN q, by rw [← HN.out.1]; exact k1.1 q, k1.2 q,
          (show Hid _ from by rw [← HR.out, bp_step a L M _ t r dk O ht3 (by rw [← HN.out.2, if_neg (by omega)])]; exact rfl)⟩
    · -- three rounds are done
      obtain rfl : t = 3 := by omega
      have hle : ¬ ((a : Int) + (L : Int) / 4 * 2 - 1 + ((3 : Nat) : Int) ≤ (a : Int) + (L : Int) / 4 * 2 + 1) := by omega
      go_wp2
      go_end0
      refine ⟨rfl, ?_⟩
      rw [← HR.out]
      exact S.out

/-- sort.breakPatterns: THE LIBRARY's OWN TEXT COMPUTES the authors' 'Sort.breakPatterns d a b'; from a world to a 'sortWorld' of it. -/
theorem breakPatterns_iface_wP (L' : LaysGt.n35 P ρ) (T : TypeId) (rv : Value) (gs : Nat) (rS : ReachesP P T rv rv' pr po pSL "Swap" gs) (enc : α → List Value) (k : Nat) (hk : ∀ x, (enc x).length = k) (blk off a b : Nat) (d : Array α) (w : World) [kp0 : Kept pr po pSL blk w]
    (hswap : SwapMK P gs rv' enc k blk off d.size) (hH : HoldsK enc k w blk off d) (hblk : blk < w.heap.size) (hab : a ≤ b) (hb : b ≤ d.size) (hsz : d.size < 4611686018427387904) :
    Calls P (ρ.f 35) #[.iface T rv, .int .i64 a, .int .i64 b] w fun e w' => e = .returned (.tuple #[]) ∧ ∃ n os, w' = sortWorldK enc k w blk off n (breakPatterns d a b) os := by
  obtain ⟨L, rfl⟩ : ∃ L, b = a + L := ⟨b - a, by omega⟩
  by_cases h8 : 8 ≤ L
  · exact breakPatterns_iface_goP L' T rv gs rS enc k hk blk off a L d w hswap hH hblk hb hsz h8
  · have hv : breakPatterns d a (a + L) = d := by unfold breakPatterns; simp only [Nat.add_sub_cancel_left]; rw [if_neg h8]
    rw [hv]
    have mixed := L'.mixed; have t0 := L'.t0; have a0 := L'.a0; have z0 := L'.z0; have v0 := L'.v0; have t3 := L'.t3; have a3 := L'.a3; have z3 := L'.z3; have v3 := L'.v3; have t4 := L'.t4; have a4 := L'.a4; have z4 := L'.z4; have v4 := L'.v4; have t5 := L'.t5; have a5 := L'.a5; have z5 := L'.z5; have v5 := L'.v5; have t9 := L'.t9; have a9 := L'.a9; have z9 := L'.z9; have v9 := L'.v9; have t26 := L'.t26; have a26 := L'.a26; have z26 := L'.z26; have v26 := L'.v26; have t38 := L'.t38; have a38 := L'.a38; have z38 := L'.z38; have v38 := L'.v38; have t43 := L'.t43; have a43 := L'.a43; have z43 := L'.z43; have v43 := L'.v43; have t45 := L'.t45; have a45 := L'.a45; have z45 := L'.z45; have v45 := L'.v45; have t47 := L'.t47; have a47 := L'.a47; have z47 := L'.z47; have v47 := L'.v47; have t56 := L'.t56; have a56 := L'.a56; have z56 := L'.z56; have v56 := L'.v56; have t58 := L'.t58; have a58 := L'.a58; have z58 := L'.z58; have v58 := L'.v58; have t67 := L'.t67; have a67 := L'.a67; have z67 := L'.z67; have v67 := L'.v67; have t73 := L'.t73; have a73 := L'.a73; have z73 := L'.z73; have v73 := L'.v73
    have hLz : ((a : Int) + (L : Int) - (a : Int)) = (L : Int) := by omega
    have h8z : ¬ (8 : Int) ≤ (L : Int) := by omega
    have S0 : Aside (SWK enc k w blk off d w) := SWK.start hH
    clear hH hswap
    go_enter L'.f35, BodyGt.n35_ntmps ρ
    go_wp2
    go_end0
    exact ⟨rfl, S0.out⟩
end Go.Proofs.YthcgojhfbcgaiaaGreatDoor
