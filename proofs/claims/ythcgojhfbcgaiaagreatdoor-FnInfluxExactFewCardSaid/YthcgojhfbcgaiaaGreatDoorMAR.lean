/- sort.Sort over elements of k cells: insertionSort, reverseRange, with a receiver that is a pointer to the row's slice. Written by turn_psort.py for this claim. Conditions: the element's cells are k, the methods' contracts, the pointer's cell is kept. -/
import Derived.Test.YthcgojhfbcgaiaaGreatDoorMAQ

namespace Go.Proofs.YthcgojhfbcgaiaaGreatDoor
set_option linter.unusedVariables false
open Go.Shelf Go.RowKit Go.Lib Go.Sort Go.Proofs
variable {P : Program} {ρ : Ren} {α : Type} [Inhabited α] {rv' : Value} {pr po : Nat} {pSL : Value}

/-- The pointer's cell holds the slice, and is not of the row's block. -/
class Kept (pr po : Nat) (pSL : Value) (blk : Nat) (w : World) : Prop where
  cell : w.cell? ⟨pr, po, none⟩ = some pSL
  ne : pr ≠ blk
section
variable {pr po : Nat} {pSL : Value} {blk : Nat} {w : World}
instance kept_drewN (q : Nat) [h : Kept pr po pSL blk w] : Kept pr po pSL blk (w.drewN q) := ⟨h.cell, h.ne⟩
instance kept_drew [h : Kept pr po pSL blk w] : Kept pr po pSL blk w.drew := ⟨h.cell, h.ne⟩
instance kept_ahead (q : Nat) [h : Kept pr po pSL blk w] : Kept pr po pSL blk (Sort.ahead w q) := ⟨h.cell, h.ne⟩
instance kept_grow (os : Array Obj) [h : Kept pr po pSL blk w] : Kept pr po pSL blk (Sort.grow w os) := ⟨by rw [Sort.cell?_grow _ _ _ (World.block_lt_of_cell? w _ h.cell)]; exact h.cell, h.ne⟩
instance kept_alloc (o : Obj) [h : Kept pr po pSL blk w] : Kept pr po pSL blk (w.alloc o) := ⟨by rw [World.cell?_alloc_lt _ _ _ (World.block_lt_of_cell? w _ h.cell)]; exact h.cell, h.ne⟩
instance kept_putRowK {α : Type} [Inhabited α] (enc : α → List Value) (k off : Nat) (d : Array α) [h : Kept pr po pSL blk w] : Kept pr po pSL blk (putRowK enc k w blk off d) := ⟨by rw [cell?_putRowK_other _ _ _ _ _ _ _ (by exact h.ne)]; exact h.cell, h.ne⟩
instance kept_setCells (o : Nat) (vs : List Value) [h : Kept pr po pSL blk w] : Kept pr po pSL blk (w.setCells blk o vs) := ⟨by rw [World.cell?_setCells_out blk _ _ _ _ (fun e _ => absurd e h.ne)]; exact h.cell, h.ne⟩
instance kept_sortWorldK {α : Type} [Inhabited α] (enc : α → List Value) (k off n : Nat) (d : Array α) (os : Array Obj) [h : Kept pr po pSL blk w] : Kept pr po pSL blk (sortWorldK enc k w blk off n d os) := by unfold sortWorldK; infer_instance
theorem _root_.Go.Proofs.SWK.kept {α : Type} [Inhabited α] {enc : α → List Value} {k off : Nat} {d : Array α} {W : World} (h : SWK enc k w blk off d W) [Kept pr po pSL blk w] : Kept pr po pSL blk W := by
  obtain ⟨n, os, rfl⟩ := h; infer_instance
theorem _root_.Go.Proofs.AtK.kept {α : Type} [Inhabited α] {enc : α → List Value} {k off : Nat} {d : Array α} {W : World} (h : AtK enc k w blk off d W) [Kept pr po pSL blk w] : Kept pr po pSL blk W := by
  obtain ⟨n, os, rfl⟩ := h; infer_instance
end

/-- How a method is found: with another receiver (the slice), in each world that has it in the pointer's cell. -/
structure ReachesP (P : Program) (T : TypeId) (rv rv' : Value) (pr po : Nat) (pSL : Value) (name : String) (f : Nat) : Prop where
  finds : ∀ w : World, w.cell? ⟨pr, po, none⟩ = some pSL → (method (P.types.size + Made.depth) T rv name).run P w = .ok (f, rv') w
  enters : ∀ args w, (callFunc f args).run P w = .ok (.enter f args) w

set_option maxHeartbeats 2000000 in
set_option maxRecDepth 100000 in
theorem insertionSort_ifaceP (L : LaysGt.n33 P ρ) (T : TypeId) (rv : Value) (gl gs : Nat) (rL : ReachesP P T rv rv' pr po pSL "Less" gl) (rS : ReachesP P T rv rv' pr po pSL "Swap" gs) (enc : α → List Value) (k : Nat) (hk : ∀ x, (enc x).length = k) (lt : α → α → Bool) (blk off a b : Nat) (d : Array α) (w : World) [kp0 : Kept pr po pSL blk w]
    (hless : LessMK P gl rv' enc k lt blk off d.size w) (hswap : SwapMK P gs rv' enc k blk off d.size)
    (hH : HoldsK enc k w blk off d) (hab : a ≤ b) (hb : b ≤ d.size) (hsz : d.size < 4611686018427387904) :
    Calls P (ρ.f 33) #[.iface T rv, .int .i64 a, .int .i64 b] w fun e w' =>
      e = .returned (.tuple #[]) ∧ ∃ n, w' = putRowK enc k (Sort.ahead w n) blk off (Sort.insertionSort lt d a b) := by
  have mixed := L.mixed; have t0 := L.t0; have a0 := L.a0; have z0 := L.z0; have v0 := L.v0; have t3 := L.t3; have a3 := L.a3; have z3 := L.z3; have v3 := L.v3; have t4 := L.t4; have a4 := L.a4; have z4 := L.z4; have v4 := L.v4; have t26 := L.t26; have a26 := L.a26; have z26 := L.z26; have v26 := L.v26; have t38 := L.t38; have a38 := L.a38; have z38 := L.z38; have v38 := L.v38; have t43 := L.t43; have a43 := L.a43; have z43 := L.z43; have v43 := L.v43; have t45 := L.t45; have a45 := L.a45; have z45 := L.z45; have v45 := L.v45
  -- (the walk's simp unfolds 'Made.depth' to 100: the two facts are laid in that form)
  have mL : ∀ (w : World) [Kept pr po pSL blk w], Sem.run P (method (P.types.size + 100) T rv "Less") w = .ok (gl, rv') w := fun w kp => rL.finds w kp.cell
  have mS : ∀ (w : World) [Kept pr po pSL blk w], Sem.run P (method (P.types.size + 100) T rv "Swap") w = .ok (gs, rv') w := fun w kp => rS.finds w kp.cell
  have eL := rL.enters; have eS := rS.enters
  go_enter L.f33, BodyGt.n33_ntmps ρ
  go_wp2
  go_loopw [6] (fun vi wr => ∃ (i n : Nat) (dk : Array α), vi = .int .i64 i ∧ a < i ∧ i ≤ b + 1 ∧ dk.size = d.size ∧ wr = putRowK enc k (Sort.ahead w n) blk off dk ∧
      insOuter lt a b i dk = insOuter lt a b (a + 1) d) (fun vi _ => b + 1 - (intOf vi).toNat)
  case atStart => exact ⟨a + 1, 0, d, by go_num, by omega, by omega, rfl, (putRowK_self _ _ _ _ _ _ hH).symm, rfl⟩
  case round =>
    obtain ⟨i, n, dk, rfl, hai, hib, hsk, hwr, hO⟩ := hrel
    have kz : Kept pr po pSL blk wr := by rw [hwr]; infer_instance
    have HO : Hid (insOuter lt a b i dk = insOuter lt a b (a + 1) d) := hO
    clear hO
    go_wp2
    · -- i < b: the inner loop
      go_loopw [7] (fun vj wr2 => ∃ (j m : Nat) (dj : Array α), vj = .int .i64 j ∧ a ≤ j ∧ j ≤ i ∧ dj.size = d.size ∧ wr2 = putRowK enc k (Sort.ahead w m) blk off dj ∧
          insInner lt a j dj = insInner lt a i dk) (fun vj _ => (intOf vj).toNat)
      case atStart => exact ⟨i, n, dk, rfl, by omega, Nat.le_refl _, hsk, rfl, rfl⟩
      case round =>
        obtain ⟨j, m, dj, rfl, haj, hji, hsj, hw2, hI⟩ := hrel
        have kz : Kept pr po pSL blk wr := by rw [hw2]; infer_instance
        have hlt : i < b := by assumption
        have hHw : ∀ q, HoldsK enc k (wr.drewN q) blk off dj := fun q => by
          rw [hw2, putRowK_drewN]; exact holdsK_putRowK enc k _ blk off d dj (holdsK_ahead _ _ _ _ _ _ _ hH) hsj
        have HW : Hid (wr = putRowK enc k (Sort.ahead w m) blk off dj) := hw2
        have HI : Hid (insInner lt a j dj = insInner lt a i dk) := hI
        clear hw2 hI hH
        have out : (j ≤ a ∨ lt dj[j]! dj[j - 1]! = false) → ∀ q, ∃ i' n' dk', Value.int .i64 ((i : Int) + 1) = .int .i64 (i' : Nat) ∧ a < i' ∧ i' ≤ b + 1 ∧ dk'.size = d.size ∧
            wr.drewN q = putRowK enc k (Sort.ahead w n') blk off dk' ∧ insOuter lt a b i' dk' = insOuter lt a b (a + 1) d := fun hs q =>
          ⟨i + 1, m + q, dj, by go_num, by omega, by omega, hsj, by rw [HW.out]; exact putRowK_drewN _ _ _ _ _ _ _ _,
            by rw [← HO.out, insOuter_go _ _ _ _ _ hlt, ← HI.out, insInner_stop _ _ _ _ hs]⟩
        have OUT : Hid _ := out
        clear out
        by_cases hja : a < j
        · have hl := hless m #[] dj hsj j (j - 1) (by omega) (by omega)
          rw [show sortWorldK enc k w blk off m dj #[] = wr by rw [HW.out]; unfold sortWorldK; rw [grow_empty]] at hl
          rw [show (((j - 1 : Nat) : Int)) = (j : Int) - 1 by omega] at hl
          have hsw := fun q => hswap (wr.drewN q) dj (hHw q) hsj j (j - 1) (by omega) (by omega)
          rw [show (((j - 1 : Nat) : Int)) = (j : Int) - 1 by omega] at hsw
          cases hlv : lt dj[j]! dj[j - 1]! with
          | true =>
            rw [hlv] at hl
            go_wp2_with (first
              | (go_at_fn gl; refine hl.mono ?_; rintro e w' ⟨rfl, q, rfl⟩)
              | (go_at_fn gs; refine (hsw _).mono ?_; rintro e w' ⟨rfl, q2, rfl⟩))
            go_roundw
            case rel =>
              (repeat apply Exists.intro)
              refine ⟨⟨j - 1, m + q + q2, swp dj j (j - 1), by congr 1 <;> omega, by omega, by omega, by rw [size_swp]; exact hsj, ?_, ?_⟩, by rw [decide_eq_true hlt, show ((j - 1 : Nat) : Int) = (j : Int) - 1 by omega]⟩
              · rw [HW.out, swap_worldK enc k hk _ m q blk off dj j (j - 1) (by omega) (by omega)]
                exact putRowK_drewN _ _ _ _ _ _ _ _
              · rw [← HI.out, insInner_go lt a j dj hja hlv]
            case measure => simp [intOf]; omega
          | false =>
            rw [hlv] at hl
            go_wp2_with (go_at_fn gl; refine hl.mono ?_; rintro e w' ⟨rfl, q, rfl⟩)
            go_roundw
            case rel => exact OUT.out (Or.inr hlv) q
            case measure => simp [intOf]; omega
        · go_wp2
          go_roundw
          case rel => exact OUT.out (Or.inl (by omega)) 0
          case measure => simp [intOf]; omega
    · -- the outer loop is at its end
      have hge : ¬ i < b := by assumption
      go_end0
      exact ⟨rfl, n, by unfold Sort.insertionSort; rw [← HO.out, insOuter_stop _ _ _ _ _ hge]⟩

/-- sort.insertionSort, from a world to a 'sortWorld' of it. -/
theorem insertionSort_iface_wP (L : LaysGt.n33 P ρ) (T : TypeId) (rv : Value) (gl gs : Nat) (rL : ReachesP P T rv rv' pr po pSL "Less" gl) (rS : ReachesP P T rv rv' pr po pSL "Swap" gs) (enc : α → List Value) (k : Nat) (hk : ∀ x, (enc x).length = k) (lt : α → α → Bool) (blk off a b : Nat) (d : Array α) (w : World) [kp0 : Kept pr po pSL blk w]
    (hless : LessMK P gl rv' enc k lt blk off d.size w) (hswap : SwapMK P gs rv' enc k blk off d.size) (hH : HoldsK enc k w blk off d) (hab : a ≤ b) (hb : b ≤ d.size) (hsz : d.size < 4611686018427387904) :
    Calls P (ρ.f 33) #[.iface T rv, .int .i64 a, .int .i64 b] w fun e w' => e = .returned (.tuple #[]) ∧ ∃ n os, w' = sortWorldK enc k w blk off n (Sort.insertionSort lt d a b) os :=
  (insertionSort_ifaceP L T rv gl gs rL rS enc k hk lt blk off a b d w hless hswap hH hab hb hsz).mono fun _ _ ⟨he, n, hw⟩ => ⟨he, n, _, hw.trans (sortWorldK_plain enc k w blk off n _)⟩

set_option maxHeartbeats 1600000 in
set_option maxRecDepth 1000000 in
theorem reverseRange_ifaceP (L : LaysGt.n37 P ρ) (T : TypeId) (rv : Value) (gs : Nat) (rS : ReachesP P T rv rv' pr po pSL "Swap" gs) (enc : α → List Value) (k : Nat) (hk : ∀ x, (enc x).length = k) (blk off a b : Nat) (d : Array α) (w : World) [kp0 : Kept pr po pSL blk w]
    (hswap : SwapMK P gs rv' enc k blk off d.size) (hH : HoldsK enc k w blk off d) (hab : a ≤ b) (hb : b ≤ d.size) (hsz : d.size < 4611686018427387904) :
    Calls P (ρ.f 37) #[.iface T rv, .int .i64 a, .int .i64 b] w fun e w' => e = .returned (.tuple #[]) ∧ ∃ n, w' = putRowK enc k (Sort.ahead w n) blk off (reverseRange d a b) := by
  have mixed := L.mixed; have t0 := L.t0; have a0 := L.a0; have z0 := L.z0; have v0 := L.v0; have t3 := L.t3; have a3 := L.a3; have z3 := L.z3; have v3 := L.v3; have t4 := L.t4; have a4 := L.a4; have z4 := L.z4; have v4 := L.v4; have t26 := L.t26; have a26 := L.a26; have z26 := L.z26; have v26 := L.v26; have t38 := L.t38; have a38 := L.a38; have z38 := L.z38; have v38 := L.v38; have t43 := L.t43; have a43 := L.a43; have z43 := L.z43; have v43 := L.v43; have t45 := L.t45; have a45 := L.a45; have z45 := L.z45; have v45 := L.v45
  have mS : ∀ (w : World) [Kept pr po pSL blk w], Sem.run P (method (P.types.size + 100) T rv "Swap") w = .ok (gs, rv') w := fun w kp => rS.finds w kp.cell
  have eS := rS.enters
  go_enter L.f37, BodyGt.n37_ntmps ρ
  go_wp2
  go_loopg [6, 7] (b - a) (fun kx s6 s7 wr => ∃ (i jn : Nat) (jz : Int) (dk : Array α) (n : Nat), s6 = .int .i64 i ∧ s7 = .int .i64 jz ∧ ((i : Int) < jz → jz = jn ∧ jn < d.size) ∧ (¬ (i : Int) < jz → ¬ i < jn) ∧ jn - i ≤ kx ∧
    dk.size = d.size ∧ wr = putRowK enc k (Sort.ahead w n) blk off dk ∧ reverseLoop i jn dk = reverseLoop a (b - 1) d)
  case atStart => exact ⟨a, b - 1, (b : Int) - 1, d, 0, rfl, rfl, fun h => ⟨by omega, by omega⟩, fun h => by omega, by omega, rfl, (putRowK_self enc k _ blk off d hH).symm, rfl⟩
  case round =>
    obtain ⟨i, jn, jz, dk, n, rfl, rfl, h1, h2, hkx, hds, hwr, heq⟩ := hrel
    have kz : Kept pr po pSL blk wr := by rw [hwr]; infer_instance
    by_cases hlt : (i : Int) < jz
    · obtain ⟨rfl, hjn⟩ := h1 hlt
      have hij : i < jn := by omega
      have hHk : HoldsK enc k wr blk off dk := by rw [hwr]; exact holdsK_putRowK enc k _ blk off d dk (holdsK_ahead enc k _ n blk off d hH) hds
      obtain ⟨Ek, hEk⟩ : ∃ Ek : Nat → List Value, ∀ t, Ek t = enc dk[t]! := ⟨fun t => enc dk[t]!, fun _ => rfl⟩
      have hs : Calls P gs #[rv', .int .i64 i, .int .i64 jn] wr fun e w' => e = .returned (.tuple #[]) ∧ ∃ q, w' = ((wr.setCells blk (off + i * k) (Ek jn)).setCells blk (off + jn * k) (Ek i)).drewN q := by
        rw [hEk, hEk]; exact hswap wr dk hHk hds i jn (by omega) (by omega)
      have A : Aside (wr = putRowK enc k (Sort.ahead w n) blk off dk) := hwr
      have AK : Hid (∀ t, Ek t = enc dk[t]!) := hEk
      clear hwr hHk hH h1 h2 hswap hEk
      go_wp2_with (go_at_fn gs; refine hs.mono ?_; rintro e w' ⟨rfl, q, rfl⟩)
      go_roundg (jn - 1 - (i + 1))
      case measure => omega
      case rel =>
        rw [reverseLoop, if_pos hij] at heq
        exact ⟨i + 1, jn - 1, (jn : Int) - 1, swp dk i jn, n + q, by simp, rfl, fun h => ⟨by omega, by omega⟩, fun h => by omega, Nat.le_refl _, by rw [size_swp]; exact hds,
          by rw [A.out, AK.out i, AK.out jn]; exact swapM_worldK enc k hk w n q blk off dk i jn (by omega) (by omega), heq⟩
    · have hnot := h2 hlt
      go_wp2
      go_end0
      refine ⟨rfl, n, ?_⟩
      rw [reverseLoop, if_neg hnot] at heq
      rw [reverseRange, ← heq]

theorem reverseRange_iface_wP (L : LaysGt.n37 P ρ) (T : TypeId) (rv : Value) (gs : Nat) (rS : ReachesP P T rv rv' pr po pSL "Swap" gs) (enc : α → List Value) (k : Nat) (hk : ∀ x, (enc x).length = k) (blk off a b : Nat) (d : Array α) (w : World) [kp0 : Kept pr po pSL blk w]
    (hswap : SwapMK P gs rv' enc k blk off d.size) (hH : HoldsK enc k w blk off d) (hab : a ≤ b) (hb : b ≤ d.size) (hsz : d.size < 4611686018427387904) :
    Calls P (ρ.f 37) #[.iface T rv, .int .i64 a, .int .i64 b] w fun e w' => e = .returned (.tuple #[]) ∧ ∃ n os, w' = sortWorldK enc k w blk off n (reverseRange d a b) os :=
  (reverseRange_ifaceP L T rv gs rS enc k hk blk off a b d w hswap hH hab hb hsz).mono fun _ _ ⟨he, n, hw⟩ => ⟨he, n, _, hw.trans (sortWorldK_plain enc k w blk off n _)⟩
end Go.Proofs.YthcgojhfbcgaiaaGreatDoor
