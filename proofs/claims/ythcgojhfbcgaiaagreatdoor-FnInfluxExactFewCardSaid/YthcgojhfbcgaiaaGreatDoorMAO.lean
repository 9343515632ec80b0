/- sort.Sort over elements of k cells: partitionEqual, partition. Written by turn_sort.py for this claim. Conditions: the element's cells are k, the methods' contracts (LessMK, SwapMK, LenM). -/
import Derived.Test.YthcgojhfbcgaiaaGreatDoorMAM

namespace Go.Proofs.YthcgojhfbcgaiaaGreatDoor
open Go.Shelf Go.RowKit Go.Lib Go.Sort Go.Proofs
variable {P : Program} {ρ : Ren} {α : Type} [Inhabited α]

/-- 'SWK.holds' where the base world is the world of the call itself: no bound on the block is wanted. -/
theorem _root_.Go.Proofs.SWK.holds0 {enc : α → List Value} {k : Nat} {W : World} {blk off n : Nat} {dk d0 : Array α} (_h : SWK enc k W blk off dk ((putRowK enc k W blk off dk).drewN n)) (h0 : HoldsK enc k W blk off d0) (hs : dk.size = d0.size) : HoldsK enc k ((putRowK enc k W blk off dk).drewN n) blk off dk :=
  holdsK_putRowK enc k _ blk off d0 dk (holdsK_ahead enc k W n blk off d0 h0) hs

set_option maxHeartbeats 12800000 in
set_option maxRecDepth 100000 in
theorem partitionEqual_ifaceK (L : LaysGt.n39 P ρ) (T : TypeId) (rv : Value) (gl gs : Nat) (rL : Reaches P T rv "Less" gl) (rS : Reaches P T rv "Swap" gs) (enc : α → List Value) (k : Nat) (hk : ∀ x, (enc x).length = k) (lt : α → α → Bool) (blk off a b pivot : Nat) (d : Array α) (W : World)
    (hless : LessMK P gl rv enc k lt blk off d.size W) (hswap : SwapMK P gs rv enc k blk off d.size) (hH : HoldsK enc k W blk off d) (hap : a ≤ pivot) (hpb : pivot < b) (hb : b ≤ d.size) (hsz : d.size < 4611686018427387904) :
    Calls P (ρ.f 39) #[.iface T rv, .int .i64 a, .int .i64 b, .int .i64 pivot] W fun e w' =>
      e = .returned (.int .i64 (Sort.partitionEqual lt d a b pivot).1) ∧ ∃ n, w' = (putRowK enc k W blk off (Sort.partitionEqual lt d a b pivot).2).drewN n := by
  have mixed := L.mixed; have t0 := L.t0; have a0 := L.a0; have z0 := L.z0; have v0 := L.v0; have t3 := L.t3; have a3 := L.a3; have z3 := L.z3; have v3 := L.v3; have t4 := L.t4; have a4 := L.a4; have z4 := L.z4; have v4 := L.v4; have t26 := L.t26; have a26 := L.a26; have z26 := L.z26; have v26 := L.v26; have t38 := L.t38; have a38 := L.a38; have z38 := L.z38; have v38 := L.v38; have t43 := L.t43; have a43 := L.a43; have z43 := L.z43; have v43 := L.v43; have t45 := L.t45; have a45 := L.a45; have z45 := L.z45; have v45 := L.v45
  have mL : ∀ w, Sem.run P (method (P.types.size + 100) T rv "Less") w = .ok (gl, rv) w := rL.finds
  have mS : ∀ w, Sem.run P (method (P.types.size + 100) T rv "Swap") w = .ok (gs, rv) w := rS.finds
  have eL := rL.enters; have eS := rS.enters
  have hla : a < d.size := by omega
  have hlp : pivot < d.size := by omega
  have swB : ∀ (dk : Array α) (n : Nat), SWK enc k W blk off dk ((putRowK enc k W blk off dk).drewN n) := fun dk n => ⟨n, _, sortWorldK_plain enc k W blk off n dk⟩
  -- 'swap', ONCE, IN THE FORM IN WHICH THE ROUNDS WANT IT (the authors' second point)
  have swapAt : ∀ (dk : Array α) (n i j : Nat), dk.size = d.size → i < d.size → j < d.size → Calls P gs #[rv, .int .i64 i, .int .i64 j] ((putRowK enc k W blk off dk).drewN n) fun e w' => e = .returned (.tuple #[]) ∧ ∃ q, w' = (putRowK enc k W blk off (Sort.swp dk i j)).drewN (n + q) := fun dk n i j hs hi hj =>
    (hswap _ dk ((swB dk n).holds0 hH hs) hs i j hi hj).mono fun _ _ ⟨he, q, hw⟩ => ⟨he, q, by rw [hw, swap_worldFK enc k hk W blk off dk n i j (by omega) (by omega), World.drewN_drewN]⟩
  have hs0 : Calls P gs #[rv, .int .i64 a, .int .i64 pivot] W fun e w' => e = .returned (.tuple #[]) ∧ ∃ q, Hid (w' = (putRowK enc k W blk off (Sort.swp d a pivot)).drewN q) := by
    have h := swapAt d 0 a pivot rfl hla hlp
    rw [show (putRowK enc k W blk off d).drewN 0 = W from putRowK_self enc k W blk off d hH] at h
    exact h.mono fun _ _ ⟨he, q, hw⟩ => ⟨he, q, by rw [hw, Nat.zero_add]; exact rfl⟩
  clear hswap
  go_enter L.f39, BodyGt.n39_ntmps ρ
  go_wp2_with (go_at_fn gs; refine hs0.mono ?_; rintro e w' ⟨rfl, q0, hw0⟩)
  -- THE 'for {'
  go_loopw [9, 10] (fun vi vj wr => ∃ (i j n : Nat) (dk : Array α), vi = .int .i64 i ∧ vj = .int .i64 j ∧ a < i ∧ i ≤ j + 1 ∧ j < b ∧ dk.size = d.size ∧ wr = (putRowK enc k W blk off dk).drewN n ∧
      Sort.partEqLoop lt a i j dk = Sort.partEqLoop lt a (a + 1) (b - 1) (Sort.swp d a pivot))
    (fun vi vj _ => (intOf vj).toNat + 1 - (intOf vi).toNat)
  case atStart => exact ⟨a + 1, b - 1, q0, Sort.swp d a pivot, by go_num, by go_num, by omega, by omega, by omega, size_swp _ _ _, hw0.out, rfl⟩
  case round =>
    obtain ⟨i, j, n, dk, rfl, rfl, hai, hij, hjb, hs, hw, heq⟩ := hrel
    clear hs0 hw0
    rename World => W1
    have hSW1 : ∀ m, SWK enc k W blk off dk (W1.drewN m) := fun m => by rw [hw]; exact (swB dk n).drewN m
    have AW : Hid (W1 = (putRowK enc k W blk off dk).drewN n) := hw
    have AE : Hid (Sort.partEqLoop lt a i j dk = Sort.partEqLoop lt a (a + 1) (b - 1) (Sort.swp d a pivot)) := heq
    clear hw heq
    go_wp2
    -- THE UPWARD SCAN
    go_loopw [9] (fun vi w1 => ∃ (i' n1 : Nat), vi = .int .i64 i' ∧ i ≤ i' ∧ i' ≤ j + 1 ∧ w1 = W1.drewN n1 ∧
        Hid (Sort.scanUp (fun x => !lt dk[a]! x) dk j i' = Sort.scanUp (fun x => !lt dk[a]! x) dk j i))
      (fun vi _ => j + 1 - (intOf vi).toNat)
    case atStart => exact ⟨i, 0, rfl, Nat.le_refl _, hij, rfl, rfl⟩
    case round =>
      obtain ⟨i', n1, rfl, hii, hij', hw1, hsc⟩ := hrel
      have hSWr : SWK enc k W blk off dk wr := by rw [hw1]; exact hSW1 n1
      have HW1 : Hid (wr = W1.drewN n1) := hw1
      clear hw1
      by_cases hle : i' ≤ j
      · have hl := hSWr.lessM hless hs a i' (by omega) (by omega)
        clear hSWr
        cases hlv : lt dk[a]! dk[i']! with
        | false =>
          -- it goes on: i++
          rw [hlv] at hl
          go_wp2_with (go_at_fn gl; refine hl.mono ?_; rintro e w' ⟨rfl, nq, rfl⟩)
          go_roundw
          case rel => exact ⟨i' + 1, n1 + nq, by go_num, by omega, by omega, by rw [HW1.out, World.drewN_drewN], (scanUp_go (fun x => !lt dk[a]! x) dk j i' hle (by simp [hlv])).symm.trans hsc.out⟩
          case measure => simp [intOf]; omega
        | true =>
          -- it stops: the test has failed
          rw [hlv] at hl
          have hi2 : Hid (i' = Sort.scanUp (fun x => !lt dk[a]! x) dk j i) := (scanUp_end (fun x => !lt dk[a]! x) dk j i' (Or.inr (by simp [hlv]))).symm.trans hsc.out
          go_wp2_with (go_at_fn gl; refine hl.mono ?_; rintro e w' ⟨rfl, nq, rfl⟩)
          -- THE DOWNWARD SCAN
          have hw2 : wr.drewN nq = W1.drewN (n1 + nq) := by rw [HW1.out, World.drewN_drewN]
          clear HW1 hsc
          go_loopw [10] (fun vj w2 => ∃ (j' n2 : Nat), vj = .int .i64 j' ∧ j' ≤ j ∧ i' ≤ j' + 1 ∧ w2 = W1.drewN n2 ∧
              Hid (Sort.scanDown (fun x => lt dk[a]! x) dk i' j' = Sort.scanDown (fun x => lt dk[a]! x) dk i' j))
            (fun vj _ => (intOf vj).toNat)
          case atStart => exact ⟨j, n1 + nq, rfl, Nat.le_refl _, hij', hw2, rfl⟩
          case round =>
            clear hw2
            obtain ⟨j', n2, rfl, hjj, hij2, hw2, hsd⟩ := hrel
            have hSWr : SWK enc k W blk off dk wr := by rw [hw2]; exact hSW1 n2
            have HW2 : Hid (wr = W1.drewN n2) := hw2
            clear hw2
            by_cases hle2 : i' ≤ j'
            · have hl := hSWr.lessM hless hs a j' (by omega) (by omega)
              cases hlv2 : lt dk[a]! dk[j']! with
              | true =>
                -- it goes on: j--
                rw [hlv2] at hl
                go_wp2_with (go_at_fn gl; refine hl.mono ?_; rintro e w' ⟨rfl, nq, rfl⟩)
                go_roundw
                case rel => exact ⟨j' - 1, n2 + nq, by go_num, by omega, by omega, by rw [HW2.out, World.drewN_drewN], (scanDown_go (fun x => lt dk[a]! x) dk i' j' hle2 (by omega) hlv2).symm.trans hsd.out⟩
                case measure => simp [intOf]; omega
              | false =>
                -- it stops: the exchange; i++; j--
                rw [hlv2] at hl
                have hj2 : Hid (j' = Sort.scanDown (fun x => lt dk[a]! x) dk i' j) := (scanDown_end (fun x => lt dk[a]! x) dk i' j' (Or.inr hlv2)).symm.trans hsd.out
                have hlt3 := scans_lt lt a i j dk (by omega) hi2.out hj2.out hle2
                have hsw : ∀ q, Calls P gs #[rv, .int .i64 i', .int .i64 j'] (wr.drewN q) fun e w' => e = .returned (.tuple #[]) ∧ ∃ q2, w' = (putRowK enc k W blk off (Sort.swp dk i' j')).drewN (n + (n2 + q) + q2) := fun q => by
                  rw [HW2.out, AW.out, World.drewN_drewN, World.drewN_drewN]; exact swapAt dk _ i' j' hs (by omega) (by omega)
                clear hsd hSWr
                go_wp2_with (first | (go_at_fn gl; refine hl.mono ?_; rintro e w' ⟨rfl, nq, rfl⟩) | (go_at_fn gs; refine (hsw _).mono ?_; rintro e w' ⟨rfl, q2, rfl⟩))
                go_roundw
                case rel => exact ⟨i' + 1, j' - 1, n + (n2 + nq) + q2, Sort.swp dk i' j', by go_num, by go_num, by omega, by omega, by omega, by rw [size_swp]; exact hs, rfl, by rw [← AE.out]; exact (partEq_go lt a i j dk hi2.out hj2.out (by omega)).symm⟩
                case measure => simp [intOf]; omega
            · -- it stops: i > j
              have hj2 : Hid (j' = Sort.scanDown (fun x => lt dk[a]! x) dk i' j) := (scanDown_end (fun x => lt dk[a]! x) dk i' j' (Or.inl hle2)).symm.trans hsd.out
              go_wp2
              go_ret
              have e := partEq_break lt a i j dk hi2.out hj2.out (by omega)
              refine ⟨?_, n + n2, ?_⟩
              · unfold Sort.partitionEqual; rw [← AE.out, e]; rfl
              · unfold Sort.partitionEqual; rw [← AE.out, e, HW2.out, AW.out, World.drewN_drewN]
      · -- it stops: i > j
        clear hSWr
        have hi2 : Hid (i' = Sort.scanUp (fun x => !lt dk[a]! x) dk j i) := (scanUp_end (fun x => !lt dk[a]! x) dk j i' (Or.inl hle)).symm.trans hsc.out
        go_wp2
        -- THE DOWNWARD SCAN
        have hw2 : wr = W1.drewN (n1) := by exact HW1.out
        clear HW1 hsc
        go_loopw [10] (fun vj w2 => ∃ (j' n2 : Nat), vj = .int .i64 j' ∧ j' ≤ j ∧ i' ≤ j' + 1 ∧ w2 = W1.drewN n2 ∧
            Hid (Sort.scanDown (fun x => lt dk[a]! x) dk i' j' = Sort.scanDown (fun x => lt dk[a]! x) dk i' j))
          (fun vj _ => (intOf vj).toNat)
        case atStart => exact ⟨j, n1, rfl, Nat.le_refl _, hij', hw2, rfl⟩
        case round =>
          clear hw2
          obtain ⟨j', n2, rfl, hjj, hij2, hw2, hsd⟩ := hrel
          have hSWr : SWK enc k W blk off dk wr := by rw [hw2]; exact hSW1 n2
          have HW2 : Hid (wr = W1.drewN n2) := hw2
          clear hw2
          by_cases hle2 : i' ≤ j'
          · exfalso; omega      -- the upward scan has run past j, and j' ≤ j
          · -- it stops: i > j
            have hj2 : Hid (j' = Sort.scanDown (fun x => lt dk[a]! x) dk i' j) := (scanDown_end (fun x => lt dk[a]! x) dk i' j' (Or.inl hle2)).symm.trans hsd.out
            go_wp2
            go_ret
            have e := partEq_break lt a i j dk hi2.out hj2.out (by omega)
            refine ⟨?_, n + n2, ?_⟩
            · unfold Sort.partitionEqual; rw [← AE.out, e]; rfl
            · unfold Sort.partitionEqual; rw [← AE.out, e, HW2.out, AW.out, World.drewN_drewN]

set_option maxHeartbeats 12800000 in
set_option maxRecDepth 100000 in
theorem partition_ifaceK (L : LaysGt.n40 P ρ) (T : TypeId) (rv : Value) (gl gs : Nat) (rL : Reaches P T rv "Less" gl) (rS : Reaches P T rv "Swap" gs) (enc : α → List Value) (k : Nat) (hk : ∀ x, (enc x).length = k) (lt : α → α → Bool) (blk off a b pivot : Nat) (d : Array α) (W : World)
    (hless : LessMK P gl rv enc k lt blk off d.size W) (hswap : SwapMK P gs rv enc k blk off d.size) (hH : HoldsK enc k W blk off d) (hap : a ≤ pivot) (hpb : pivot < b) (hb : b ≤ d.size) (hsz : d.size < 4611686018427387904) :
    Calls P (ρ.f 40) #[.iface T rv, .int .i64 a, .int .i64 b, .int .i64 pivot] W fun e w' =>
      e = .returned (.tuple #[.int .i64 (Sort.partition lt d a b pivot).1, .bool (Sort.partition lt d a b pivot).2.1]) ∧ ∃ n, w' = (putRowK enc k W blk off (Sort.partition lt d a b pivot).2.2).drewN n := by
  have mixed := L.mixed; have t0 := L.t0; have a0 := L.a0; have z0 := L.z0; have v0 := L.v0; have t3 := L.t3; have a3 := L.a3; have z3 := L.z3; have v3 := L.v3; have t4 := L.t4; have a4 := L.a4; have z4 := L.z4; have v4 := L.v4; have t26 := L.t26; have a26 := L.a26; have z26 := L.z26; have v26 := L.v26; have t38 := L.t38; have a38 := L.a38; have z38 := L.z38; have v38 := L.v38; have t43 := L.t43; have a43 := L.a43; have z43 := L.z43; have v43 := L.v43; have t45 := L.t45; have a45 := L.a45; have z45 := L.z45; have v45 := L.v45
  have mL : ∀ w, Sem.run P (method (P.types.size + 100) T rv "Less") w = .ok (gl, rv) w := rL.finds
  have mS : ∀ w, Sem.run P (method (P.types.size + 100) T rv "Swap") w = .ok (gs, rv) w := rS.finds
  have eL := rL.enters; have eS := rS.enters
  have hla : a < d.size := by omega
  have hlp : pivot < d.size := by omega
  have swB : ∀ (dk : Array α) (n : Nat), SWK enc k W blk off dk ((putRowK enc k W blk off dk).drewN n) := fun dk n => ⟨n, _, sortWorldK_plain enc k W blk off n dk⟩
  -- 'swap', ONCE, IN THE FORM IN WHICH THE ROUNDS WANT IT (the authors' second point)
  have swapAt : ∀ (dk : Array α) (n i j : Nat), dk.size = d.size → i < d.size → j < d.size → Calls P gs #[rv, .int .i64 i, .int .i64 j] ((putRowK enc k W blk off dk).drewN n) fun e w' => e = .returned (.tuple #[]) ∧ ∃ q, w' = (putRowK enc k W blk off (Sort.swp dk i j)).drewN (n + q) := fun dk n i j hs hi hj =>
    (hswap _ dk ((swB dk n).holds0 hH hs) hs i j hi hj).mono fun _ _ ⟨he, q, hw⟩ => ⟨he, q, by rw [hw, swap_worldFK enc k hk W blk off dk n i j (by omega) (by omega), World.drewN_drewN]⟩
  have hs0 : Calls P gs #[rv, .int .i64 a, .int .i64 pivot] W fun e w' => e = .returned (.tuple #[]) ∧ ∃ q, Hid (w' = (putRowK enc k W blk off (Sort.swp d a pivot)).drewN q) := by
    have h := swapAt d 0 a pivot rfl hla hlp
    rw [show (putRowK enc k W blk off d).drewN 0 = W from putRowK_self enc k W blk off d hH] at h
    exact h.mono fun _ _ ⟨he, q, hw⟩ => ⟨he, q, by rw [hw, Nat.zero_add]; exact rfl⟩
  clear hswap
  -- THE FIRST ROUND's STATE UNDER THE NAMES THAT EVERY ROUND USES
  obtain ⟨i, hi⟩ : ∃ i : Nat, i = a + 1 := ⟨_, rfl⟩
  obtain ⟨j, hj⟩ : ∃ j : Nat, j = b - 1 := ⟨_, rfl⟩
  obtain ⟨dk, hdk⟩ : ∃ dk : Array α, dk = Sort.swp d a pivot := ⟨_, rfl⟩
  have hs : dk.size = d.size := by rw [hdk]; exact size_swp _ _ _
  have hai : a < i := by omega
  have hij : i ≤ j + 1 := by omega
  have hjb : j < b := by omega
  rw [← hdk] at hs0
  have Hi : Hid (i = a + 1) := hi
  have Hj : Hid (j = b - 1) := hj
  have Hdk : Hid (dk = Sort.swp d a pivot) := hdk
  clear hi hj hdk
  go_enter L.f40, BodyGt.n40_ntmps ρ
  go_wp2_with (go_at_fn gs; refine hs0.mono ?_; rintro e W1 ⟨rfl, n, hw0⟩)
  rw [show ((a : Int) + 1) = (i : Int) by have := Hi.out; omega, show ((b : Int) - 1) = (j : Int) by have := Hj.out; omega]
  have hw := hw0.out
  have hSW1 : ∀ m, SWK enc k W blk off dk (W1.drewN m) := fun m => by rw [hw]; exact (swB dk n).drewN m
  have AW : Hid (W1 = (putRowK enc k W blk off dk).drewN n) := hw
  clear hw hw0 hs0
  -- THE UPWARD SCAN
  go_loopw [10] (fun vi w1 => ∃ (i' n1 : Nat), vi = .int .i64 i' ∧ i ≤ i' ∧ i' ≤ j + 1 ∧ w1 = W1.drewN n1 ∧
      Hid (Sort.scanUp (fun x => lt x dk[a]!) dk j i' = Sort.scanUp (fun x => lt x dk[a]!) dk j i))
    (fun vi _ => j + 1 - (intOf vi).toNat)
  case atStart => exact ⟨i, 0, rfl, Nat.le_refl _, hij, rfl, rfl⟩
  case round =>
    obtain ⟨i', n1, rfl, hii, hij', hw1, hsc⟩ := hrel
    have hSWr : SWK enc k W blk off dk wr := by rw [hw1]; exact hSW1 n1
    have HW1 : Hid (wr = W1.drewN n1) := hw1
    clear hw1
    by_cases hle : i' ≤ j
    · have hl := hSWr.lessM hless hs i' a (by omega) (by omega)
      clear hSWr
      cases hlv : lt dk[i']! dk[a]! with
      | true =>
        -- it goes on: i++
        rw [hlv] at hl
        go_wp2_with (go_at_fn gl; refine hl.mono ?_; rintro e w' ⟨rfl, nq, rfl⟩)
        go_roundw
        case rel => exact ⟨i' + 1, n1 + nq, by go_num, by omega, by omega, by rw [HW1.out, World.drewN_drewN], (scanUp_go (fun x => lt x dk[a]!) dk j i' hle hlv).symm.trans hsc.out⟩
        case measure => simp [intOf]; omega
      | false =>
        -- it stops: the test has failed
        rw [hlv] at hl
        have hi2 : Hid (i' = Sort.scanUp (fun x => lt x dk[a]!) dk j i) := (scanUp_end (fun x => lt x dk[a]!) dk j i' (Or.inr hlv)).symm.trans hsc.out
        go_wp2_with (go_at_fn gl; refine hl.mono ?_; rintro e w' ⟨rfl, nq, rfl⟩)
        -- THE DOWNWARD SCAN
        have hw2 : wr.drewN nq = W1.drewN (n1 + nq) := by rw [HW1.out, World.drewN_drewN]
        clear HW1 hsc
        go_loopw [11] (fun vj w2 => ∃ (j' n2 : Nat), vj = .int .i64 j' ∧ j' ≤ j ∧ i' ≤ j' + 1 ∧ w2 = W1.drewN n2 ∧
            Hid (Sort.scanDown (fun x => !lt x dk[a]!) dk i' j' = Sort.scanDown (fun x => !lt x dk[a]!) dk i' j))
          (fun vj _ => (intOf vj).toNat)
        case atStart => exact ⟨j, n1 + nq, rfl, Nat.le_refl _, hij', hw2, rfl⟩
        case round =>
          clear hw2
          obtain ⟨j', n2, rfl, hjj, hij2, hw2, hsd⟩ := hrel
          have hSWr : SWK enc k W blk off dk wr := by rw [hw2]; exact hSW1 n2
          have HW2 : Hid (wr = W1.drewN n2) := hw2
          clear hw2
          by_cases hle2 : i' ≤ j'
          · have hl := hSWr.lessM hless hs j' a (by omega) (by omega)
            cases hlv2 : lt dk[j']! dk[a]! with
            | false =>
              -- it goes on: j--
              rw [hlv2] at hl
              go_wp2_with (go_at_fn gl; refine hl.mono ?_; rintro e w' ⟨rfl, nq, rfl⟩)
              go_roundw
              case rel => exact ⟨j' - 1, n2 + nq, by go_num, by omega, by omega, by rw [HW2.out, World.drewN_drewN], (scanDown_go (fun x => !lt x dk[a]!) dk i' j' hle2 (by omega) (by simp [hlv2])).symm.trans hsd.out⟩
              case measure => simp [intOf]; omega
            | true =>
              -- it stops: the exchange; i++; j--
              rw [hlv2] at hl
              have hj2 : Hid (j' = Sort.scanDown (fun x => !lt x dk[a]!) dk i' j) := (scanDown_end (fun x => !lt x dk[a]!) dk i' j' (Or.inr (by simp [hlv2]))).symm.trans hsd.out
              have hlt3 := part_scans_lt lt a i j dk (by omega) hi2.out hj2.out hle2
              have hsw : ∀ q, Calls P gs #[rv, .int .i64 i', .int .i64 j'] (wr.drewN q) fun e w' => e = .returned (.tuple #[]) ∧ ∃ q2, w' = (putRowK enc k W blk off (Sort.swp dk i' j')).drewN (n + (n2 + q) + q2) := fun q => by
                rw [HW2.out, AW.out, World.drewN_drewN, World.drewN_drewN]; exact swapAt dk _ i' j' hs (by omega) (by omega)
              clear hsd hSWr
              go_wp2_with (first | (go_at_fn gl; refine hl.mono ?_; rintro e w' ⟨rfl, nq, rfl⟩) | (go_at_fn gs; refine (hsw _).mono ?_; rintro e w' ⟨rfl, q2, rfl⟩))
              -- THE 'for {'  (the first round's test 'i > j' stands in a slot as 'decide (j' < i')': laid as 'false' AHEAD of the loop, where it is not that already)
              (try rw [decide_eq_false (show ¬ j' < i' by omega)])
              obtain ⟨I0, hI0⟩ : ∃ I0 : Nat, I0 = i' + 1 := ⟨_, rfl⟩
              obtain ⟨J0, hJ0⟩ : ∃ J0 : Nat, J0 = j' - 1 := ⟨_, rfl⟩
              obtain ⟨D0, hD0⟩ : ∃ D0 : Array α, D0 = Sort.swp dk i' j' := ⟨_, rfl⟩
              have PF : Hid (Sort.partition lt d a b pivot = ((Sort.partLoop lt a I0 J0 D0).1, false, Sort.swp (Sort.partLoop lt a I0 J0 D0).2 (Sort.partLoop lt a I0 J0 D0).1 a)) := by
                rw [hI0, hJ0, hD0]; exact part_first_go lt d a b pivot Hi.out Hj.out Hdk.out hi2.out hj2.out (by omega)
              go_loopw [10, 11] (fun vi vj wr => ∃ (i j n : Nat) (dk : Array α), vi = .int .i64 i ∧ vj = .int .i64 j ∧ a < i ∧ i ≤ j + 1 ∧ j < b ∧ dk.size = d.size ∧ wr = (putRowK enc k W blk off dk).drewN n ∧
                  Sort.partLoop lt a i j dk = Sort.partLoop lt a I0 J0 D0)
                (fun vi vj _ => (intOf vj).toNat + 1 - (intOf vi).toNat)
              case atStart => exact ⟨i' + 1, j' - 1, n + (n2 + nq) + q2, Sort.swp dk i' j', by go_num, by go_num, by omega, by omega, by omega, by rw [size_swp]; exact hs, rfl, by rw [hI0, hJ0, hD0]⟩
              case round =>
                clear hI0 hJ0 hD0 hsw HW2 hj2 hi2 hlt3 hl hSW1 AW Hi Hj Hdk hs
                obtain ⟨i, j, n, dk, rfl, rfl, hai, hij, hjb, hs, hw, heq⟩ := hrel
                rename World => W1
                have hSW1 : ∀ m, SWK enc k W blk off dk (W1.drewN m) := fun m => by rw [hw]; exact (swB dk n).drewN m
                have AW : Hid (W1 = (putRowK enc k W blk off dk).drewN n) := hw
                have AE : Hid (Sort.partLoop lt a i j dk = Sort.partLoop lt a I0 J0 D0) := heq
                clear hw heq
                go_wp2
                -- THE UPWARD SCAN
                go_loopw [10] (fun vi w1 => ∃ (i' n1 : Nat), vi = .int .i64 i' ∧ i ≤ i' ∧ i' ≤ j + 1 ∧ w1 = W1.drewN n1 ∧
                    Hid (Sort.scanUp (fun x => lt x dk[a]!) dk j i' = Sort.scanUp (fun x => lt x dk[a]!) dk j i))
                  (fun vi _ => j + 1 - (intOf vi).toNat)
                case atStart => exact ⟨i, 0, rfl, Nat.le_refl _, hij, rfl, rfl⟩
                case round =>
                  obtain ⟨i', n1, rfl, hii, hij', hw1, hsc⟩ := hrel
                  have hSWr : SWK enc k W blk off dk wr := by rw [hw1]; exact hSW1 n1
                  have HW1 : Hid (wr = W1.drewN n1) := hw1
                  clear hw1
                  by_cases hle : i' ≤ j
                  · have hl := hSWr.lessM hless hs i' a (by omega) (by omega)
                    clear hSWr
                    cases hlv : lt dk[i']! dk[a]! with
                    | true =>
                      -- it goes on: i++
                      rw [hlv] at hl
                      go_wp2_with (go_at_fn gl; refine hl.mono ?_; rintro e w' ⟨rfl, nq, rfl⟩)
                      go_roundw
                      case rel => exact ⟨i' + 1, n1 + nq, by go_num, by omega, by omega, by rw [HW1.out, World.drewN_drewN], (scanUp_go (fun x => lt x dk[a]!) dk j i' hle hlv).symm.trans hsc.out⟩
                      case measure => simp [intOf]; omega
                    | false =>
                      -- it stops: the test has failed
                      rw [hlv] at hl
                      have hi2 : Hid (i' = Sort.scanUp (fun x => lt x dk[a]!) dk j i) := (scanUp_end (fun x => lt x dk[a]!) dk j i' (Or.inr hlv)).symm.trans hsc.out
                      go_wp2_with (go_at_fn gl; refine hl.mono ?_; rintro e w' ⟨rfl, nq, rfl⟩)
                      -- THE DOWNWARD SCAN
                      have hw2 : wr.drewN nq = W1.drewN (n1 + nq) := by rw [HW1.out, World.drewN_drewN]
                      clear HW1 hsc
                      go_loopw [11] (fun vj w2 => ∃ (j' n2 : Nat), vj = .int .i64 j' ∧ j' ≤ j ∧ i' ≤ j' + 1 ∧ w2 = W1.drewN n2 ∧
                          Hid (Sort.scanDown (fun x => !lt x dk[a]!) dk i' j' = Sort.scanDown (fun x => !lt x dk[a]!) dk i' j))
                        (fun vj _ => (intOf vj).toNat)
                      case atStart => exact ⟨j, n1 + nq, rfl, Nat.le_refl _, hij', hw2, rfl⟩
                      case round =>
                        clear hw2
                        obtain ⟨j', n2, rfl, hjj, hij2, hw2, hsd⟩ := hrel
                        have hSWr : SWK enc k W blk off dk wr := by rw [hw2]; exact hSW1 n2
                        have HW2 : Hid (wr = W1.drewN n2) := hw2
                        clear hw2
                        by_cases hle2 : i' ≤ j'
                        · have hl := hSWr.lessM hless hs j' a (by omega) (by omega)
                          cases hlv2 : lt dk[j']! dk[a]! with
                          | false =>
                            -- it goes on: j--
                            rw [hlv2] at hl
                            go_wp2_with (go_at_fn gl; refine hl.mono ?_; rintro e w' ⟨rfl, nq, rfl⟩)
                            go_roundw
                            case rel => exact ⟨j' - 1, n2 + nq, by go_num, by omega, by omega, by rw [HW2.out, World.drewN_drewN], (scanDown_go (fun x => !lt x dk[a]!) dk i' j' hle2 (by omega) (by simp [hlv2])).symm.trans hsd.out⟩
                            case measure => simp [intOf]; omega
                          | true =>
                            -- it stops: the exchange; i++; j--
                            rw [hlv2] at hl
                            have hj2 : Hid (j' = Sort.scanDown (fun x => !lt x dk[a]!) dk i' j) := (scanDown_end (fun x => !lt x dk[a]!) dk i' j' (Or.inr (by simp [hlv2]))).symm.trans hsd.out
                            have hlt3 := part_scans_lt lt a i j dk (by omega) hi2.out hj2.out hle2
                            have hsw : ∀ q, Calls P gs #[rv, .int .i64 i', .int .i64 j'] (wr.drewN q) fun e w' => e = .returned (.tuple #[]) ∧ ∃ q2, w' = (putRowK enc k W blk off (Sort.swp dk i' j')).drewN (n + (n2 + q) + q2) := fun q => by
                              rw [HW2.out, AW.out, World.drewN_drewN, World.drewN_drewN]; exact swapAt dk _ i' j' hs (by omega) (by omega)
                            clear hsd hSWr
                            go_wp2_with (first | (go_at_fn gl; refine hl.mono ?_; rintro e w' ⟨rfl, nq, rfl⟩) | (go_at_fn gs; refine (hsw _).mono ?_; rintro e w' ⟨rfl, q2, rfl⟩))
                            go_roundw
                            case rel => exact ⟨i' + 1, j' - 1, n + (n2 + nq) + q2, Sort.swp dk i' j', by go_num, by go_num, by omega, by omega, by omega, by rw [size_swp]; exact hs, rfl, by rw [← AE.out]; exact (part_go lt a i j dk hi2.out hj2.out (by omega)).symm⟩
                            case measure => simp [intOf]; omega
                        · -- it stops: i > j
                          have hj2 : Hid (j' = Sort.scanDown (fun x => !lt x dk[a]!) dk i' j) := (scanDown_end (fun x => !lt x dk[a]!) dk i' j' (Or.inl hle2)).symm.trans hsd.out
                          have hsw : Calls P gs #[rv, .int .i64 j', .int .i64 a] wr fun e w' => e = .returned (.tuple #[]) ∧ ∃ q2, w' = (putRowK enc k W blk off (Sort.swp dk j' a)).drewN (n + n2 + q2) := by
                            rw [HW2.out, AW.out, World.drewN_drewN]; exact swapAt dk _ j' a hs (by omega) (by omega)
                          clear hsd hSWr
                          go_wp2_with (go_at_fn gs; refine hsw.mono ?_; rintro e w' ⟨rfl, q2, rfl⟩)
                          go_ret2
                          have e := part_break lt a i j dk hi2.out hj2.out (by omega)
                          rw [PF.out, ← AE.out, e]
                          exact ⟨rfl, _, rfl⟩
                  · -- it stops: i > j
                    clear hSWr
                    have hi2 : Hid (i' = Sort.scanUp (fun x => lt x dk[a]!) dk j i) := (scanUp_end (fun x => lt x dk[a]!) dk j i' (Or.inl hle)).symm.trans hsc.out
                    go_wp2
                    -- THE DOWNWARD SCAN
                    have hw2 : wr = W1.drewN (n1) := by exact HW1.out
                    clear HW1 hsc
                    go_loopw [11] (fun vj w2 => ∃ (j' n2 : Nat), vj = .int .i64 j' ∧ j' ≤ j ∧ i' ≤ j' + 1 ∧ w2 = W1.drewN n2 ∧
                        Hid (Sort.scanDown (fun x => !lt x dk[a]!) dk i' j' = Sort.scanDown (fun x => !lt x dk[a]!) dk i' j))
                      (fun vj _ => (intOf vj).toNat)
                    case atStart => exact ⟨j, n1, rfl, Nat.le_refl _, hij', hw2, rfl⟩
                    case round =>
                      clear hw2
                      obtain ⟨j', n2, rfl, hjj, hij2, hw2, hsd⟩ := hrel
                      have hSWr : SWK enc k W blk off dk wr := by rw [hw2]; exact hSW1 n2
                      have HW2 : Hid (wr = W1.drewN n2) := hw2
                      clear hw2
                      by_cases hle2 : i' ≤ j'
                      · exfalso; omega      -- the upward scan has run past j, and j' ≤ j
                      · -- it stops: i > j
                        have hj2 : Hid (j' = Sort.scanDown (fun x => !lt x dk[a]!) dk i' j) := (scanDown_end (fun x => !lt x dk[a]!) dk i' j' (Or.inl hle2)).symm.trans hsd.out
                        have hsw : Calls P gs #[rv, .int .i64 j', .int .i64 a] wr fun e w' => e = .returned (.tuple #[]) ∧ ∃ q2, w' = (putRowK enc k W blk off (Sort.swp dk j' a)).drewN (n + n2 + q2) := by
                          rw [HW2.out, AW.out, World.drewN_drewN]; exact swapAt dk _ j' a hs (by omega) (by omega)
                        clear hsd hSWr
                        go_wp2_with (go_at_fn gs; refine hsw.mono ?_; rintro e w' ⟨rfl, q2, rfl⟩)
                        go_ret2
                        have e := part_break lt a i j dk hi2.out hj2.out (by omega)
                        rw [PF.out, ← AE.out, e]
                        exact ⟨rfl, _, rfl⟩
          · -- it stops: i > j
            have hj2 : Hid (j' = Sort.scanDown (fun x => !lt x dk[a]!) dk i' j) := (scanDown_end (fun x => !lt x dk[a]!) dk i' j' (Or.inl hle2)).symm.trans hsd.out
            have hsw : Calls P gs #[rv, .int .i64 j', .int .i64 a] wr fun e w' => e = .returned (.tuple #[]) ∧ ∃ q2, w' = (putRowK enc k W blk off (Sort.swp dk j' a)).drewN (n + n2 + q2) := by
              rw [HW2.out, AW.out, World.drewN_drewN]; exact swapAt dk _ j' a hs (by omega) (by omega)
            clear hsd hSWr
            go_wp2_with (go_at_fn gs; refine hsw.mono ?_; rintro e w' ⟨rfl, q2, rfl⟩)
            go_ret2
            have e := part_first_break lt d a b pivot Hi.out Hj.out Hdk.out hi2.out hj2.out (by omega)
            rw [e]
            exact ⟨rfl, _, rfl⟩
    · -- it stops: i > j
      clear hSWr
      have hi2 : Hid (i' = Sort.scanUp (fun x => lt x dk[a]!) dk j i) := (scanUp_end (fun x => lt x dk[a]!) dk j i' (Or.inl hle)).symm.trans hsc.out
      go_wp2
      -- THE DOWNWARD SCAN
      have hw2 : wr = W1.drewN (n1) := by exact HW1.out
      clear HW1 hsc
      go_loopw [11] (fun vj w2 => ∃ (j' n2 : Nat), vj = .int .i64 j' ∧ j' ≤ j ∧ i' ≤ j' + 1 ∧ w2 = W1.drewN n2 ∧
          Hid (Sort.scanDown (fun x => !lt x dk[a]!) dk i' j' = Sort.scanDown (fun x => !lt x dk[a]!) dk i' j))
        (fun vj _ => (intOf vj).toNat)
      case atStart => exact ⟨j, n1, rfl, Nat.le_refl _, hij', hw2, rfl⟩
      case round =>
        clear hw2
        obtain ⟨j', n2, rfl, hjj, hij2, hw2, hsd⟩ := hrel
        have hSWr : SWK enc k W blk off dk wr := by rw [hw2]; exact hSW1 n2
        have HW2 : Hid (wr = W1.drewN n2) := hw2
        clear hw2
        by_cases hle2 : i' ≤ j'
        · exfalso; omega      -- the upward scan has run past j, and j' ≤ j
        · -- it stops: i > j
          have hj2 : Hid (j' = Sort.scanDown (fun x => !lt x dk[a]!) dk i' j) := (scanDown_end (fun x => !lt x dk[a]!) dk i' j' (Or.inl hle2)).symm.trans hsd.out
          have hsw : Calls P gs #[rv, .int .i64 j', .int .i64 a] wr fun e w' => e = .returned (.tuple #[]) ∧ ∃ q2, w' = (putRowK enc k W blk off (Sort.swp dk j' a)).drewN (n + n2 + q2) := by
            rw [HW2.out, AW.out, World.drewN_drewN]; exact swapAt dk _ j' a hs (by omega) (by omega)
          clear hsd hSWr
          go_wp2_with (go_at_fn gs; refine hsw.mono ?_; rintro e w' ⟨rfl, q2, rfl⟩)
          go_ret2
          have e := part_first_break lt d a b pivot Hi.out Hj.out Hdk.out hi2.out hj2.out (by omega)
          rw [e]
          exact ⟨rfl, _, rfl⟩

theorem partitionEqual_iface_wK (L : LaysGt.n39 P ρ) (T : TypeId) (rv : Value) (gl gs : Nat) (rL : Reaches P T rv "Less" gl) (rS : Reaches P T rv "Swap" gs) (enc : α → List Value) (k : Nat) (hk : ∀ x, (enc x).length = k) (lt : α → α → Bool) (blk off a b pivot : Nat) (d : Array α) (W : World)
    (hless : LessMK P gl rv enc k lt blk off d.size W) (hswap : SwapMK P gs rv enc k blk off d.size) (hH : HoldsK enc k W blk off d) (hap : a ≤ pivot) (hpb : pivot < b) (hb : b ≤ d.size) (hsz : d.size < 4611686018427387904) :
    Calls P (ρ.f 39) #[.iface T rv, .int .i64 a, .int .i64 b, .int .i64 pivot] W fun e w' => e = .returned (.int .i64 (Sort.partitionEqual lt d a b pivot).1) ∧ ∃ n os, w' = sortWorldK enc k W blk off n (Sort.partitionEqual lt d a b pivot).2 os :=
  (partitionEqual_ifaceK L T rv gl gs rL rS enc k hk lt blk off a b pivot d W hless hswap hH hap hpb hb hsz).mono fun _ _ ⟨he, n, hw⟩ => ⟨he, n, _, hw.trans (sortWorldK_plain enc k W blk off n _)⟩

theorem partition_iface_wK (L : LaysGt.n40 P ρ) (T : TypeId) (rv : Value) (gl gs : Nat) (rL : Reaches P T rv "Less" gl) (rS : Reaches P T rv "Swap" gs) (enc : α → List Value) (k : Nat) (hk : ∀ x, (enc x).length = k) (lt : α → α → Bool) (blk off a b pivot : Nat) (d : Array α) (W : World)
    (hless : LessMK P gl rv enc k lt blk off d.size W) (hswap : SwapMK P gs rv enc k blk off d.size) (hH : HoldsK enc k W blk off d) (hap : a ≤ pivot) (hpb : pivot < b) (hb : b ≤ d.size) (hsz : d.size < 4611686018427387904) :
    Calls P (ρ.f 40) #[.iface T rv, .int .i64 a, .int .i64 b, .int .i64 pivot] W fun e w' => e = .returned (.tuple #[.int .i64 (Sort.partition lt d a b pivot).1, .bool (Sort.partition lt d a b pivot).2.1]) ∧ ∃ n os, w' = sortWorldK enc k W blk off n (Sort.partition lt d a b pivot).2.2 os :=
  (partition_ifaceK L T rv gl gs rL rS enc k hk lt blk off a b pivot d W hless hswap hH hap hpb hb hsz).mono fun _ _ ⟨he, n, hw⟩ => ⟨he, n, _, hw.trans (sortWorldK_plain enc k W blk off n _)⟩
end Go.Proofs.YthcgojhfbcgaiaaGreatDoor
