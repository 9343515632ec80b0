/- sort.Sort over elements of k cells: what is asked of the methods; insertionSort, reverseRange. Written by turn_sort.py for this claim. Conditions: the element's cells are k, the methods' contracts (LessMK, SwapMK, LenM). -/
import Derived.Shelf.GgSortMore.SortSort
import Derived.Shelf.SlSortFuncK.LotDK
import Derived.Shelf.SlSortFuncK.AtK

namespace Go.Proofs.YthcgojhfbcgaiaaGreatDoor
open Go.Shelf Go.RowKit Go.Lib Go.Sort Go.Proofs
variable {P : Program} {ρ : Ren} {α : Type} [Inhabited α]

/-- Less, called on the row as it stands in whatever world the sort passes through: it tells the order of the two elements; it reads; it may draw. -/
def LessMK (P : Program) (gl : Nat) (rv : Value) (enc : α → List Value) (k : Nat) (lt : α → α → Bool) (blk off size : Nat) (w : World) : Prop :=
  ∀ (m : Nat) (os : Array Obj) (dk : Array α), dk.size = size → ∀ i j : Nat, i < size → j < size →
    Calls P gl #[rv, .int .i64 i, .int .i64 j] (sortWorldK enc k w blk off m dk os) fun e w' => e = .returned (.bool (lt dk[i]! dk[j]!)) ∧ ∃ q, w' = (sortWorldK enc k w blk off m dk os).drewN q

/-- Swap: the two elements' cells exchanged, and some draws. -/
def SwapMK (P : Program) (gs : Nat) (rv : Value) (enc : α → List Value) (k : Nat) (blk off size : Nat) : Prop :=
  ∀ (W : World) (dk : Array α), HoldsK enc k W blk off dk → dk.size = size → ∀ i j : Nat, i < size → j < size →
    Calls P gs #[rv, .int .i64 i, .int .i64 j] W fun e w' => e = .returned (.tuple #[]) ∧ ∃ q, w' = ((W.setCells blk (off + i * k) (enc dk[j]!)).setCells blk (off + j * k) (enc dk[i]!)).drewN q


set_option maxHeartbeats 2000000 in
set_option maxRecDepth 100000 in
theorem insertionSort_ifaceK (L : LaysGt.n33 P ρ) (T : TypeId) (rv : Value) (gl gs : Nat) (rL : Reaches P T rv "Less" gl) (rS : Reaches P T rv "Swap" gs) (enc : α → List Value) (k : Nat) (hk : ∀ x, (enc x).length = k) (lt : α → α → Bool) (blk off a b : Nat) (d : Array α) (w : World)
    (hless : LessMK P gl rv enc k lt blk off d.size w) (hswap : SwapMK P gs rv enc k blk off d.size)
    (hH : HoldsK enc k w blk off d) (hab : a ≤ b) (hb : b ≤ d.size) (hsz : d.size < 4611686018427387904) :
    Calls P (ρ.f 33) #[.iface T rv, .int .i64 a, .int .i64 b] w fun e w' =>
      e = .returned (.tuple #[]) ∧ ∃ n, w' = putRowK enc k (Sort.ahead w n) blk off (Sort.insertionSort lt d a b) := by
  have mixed := L.mixed; have t0 := L.t0; have a0 := L.a0; have z0 := L.z0; have v0 := L.v0; have t3 := L.t3; have a3 := L.a3; have z3 := L.z3; have v3 := L.v3; have t4 := L.t4; have a4 := L.a4; have z4 := L.z4; have v4 := L.v4; have t26 := L.t26; have a26 := L.a26; have z26 := L.z26; have v26 := L.v26; have t38 := L.t38; have a38 := L.a38; have z38 := L.z38; have v38 := L.v38; have t43 := L.t43; have a43 := L.a43; have z43 := L.z43; have v43 := L.v43; have t45 := L.t45; have a45 := L.a45; have z45 := L.z45; have v45 := L.v45
  -- (the walk's simp unfolds 'Made.depth' to 100: the two facts are laid in that form)
  have mL : ∀ w, Sem.run P (method (P.types.size + 100) T rv "Less") w = .ok (gl, rv) w := rL.finds
  have mS : ∀ w, Sem.run P (method (P.types.size + 100) T rv "Swap") w = .ok (gs, rv) w := rS.finds
  have eL := rL.enters; have eS := rS.enters
  go_enter L.f33, BodyGt.n33_ntmps ρ
  go_wp2
  go_loopw [6] (fun vi wr => ∃ (i n : Nat) (dk : Array α), vi = .int .i64 i ∧ a < i ∧ i ≤ b + 1 ∧ dk.size = d.size ∧ wr = putRowK enc k (Sort.ahead w n) blk off dk ∧
      insOuter lt a b i dk = insOuter lt a b (a + 1) d) (fun vi _ => b + 1 - (intOf vi).toNat)
  case atStart => exact ⟨a + 1, 0, d, by go_num, by omega, by omega, rfl, (putRowK_self _ _ _ _ _ _ hH).symm, rfl⟩
  case round =>
    obtain ⟨i, n, dk, rfl, hai, hib, hsk, hwr, hO⟩ := hrel
    have HO : Hid (insOuter lt a b i dk = insOuter lt a b (a + 1) d) := hO
    clear hO
    go_wp2
    · -- i < b: the inner loop
      go_loopw [7] (fun vj wr2 => ∃ (j m : Nat) (dj : Array α), vj = .int .i64 j ∧ a ≤ j ∧ j ≤ i ∧ dj.size = d.size ∧ wr2 = putRowK enc k (Sort.ahead w m) blk off dj ∧
          insInner lt a j dj = insInner lt a i dk) (fun vj _ => (intOf vj).toNat)
      case atStart => exact ⟨i, n, dk, rfl, by omega, Nat.le_refl _, hsk, rfl, rfl⟩
      case round =>
        obtain ⟨j, m, dj, rfl, haj, hji, hsj, hw2, hI⟩ := hrel
        have hlt : i < b := by assumption
        have hHw : ∀ q, HoldsK enc k (wr.drewN q) blk off dj := fun q => by
          rw [hw2, putRowK_drewN]; exact holdsK_putRowK enc k _ blk off d dj (holdsK_ahead _ _ _ _ _ _ _ hH) hsj
        have HW : Hid (wr = putRowK enc k (Sort.ahead w m) blk off dj) := hw2
        have HI : Hid (insInner lt a j dj = insInner lt a i dk) := hI
        clear hw2 hI hH
        have out : (j ≤ a ∨ lt dj[j]! dj[j - 1]! = false) → ∀ q, ∃ i' n' dk', Value.int .i64 ((i : Int) + 1) = .int .i64 (i' : Nat) ∧ a < i' ∧ i' ≤ b + 1 ∧ dk'.size = d.size ∧
            wr.drewN q = putRowK enc k (Sort.ahead w n') blk off dk' ∧ insOuter lt a b i' dk' = insOuter lt a b (a + 1) d := fun hs q =>
          ⟨i + 1, m + q, dj, by go_num, by omega, by omega, hsj, by rw [HW.out]; exact putRowK_drewN _ _ _ _ _ _ _ _,
            by rw [← HO.out, insOuter_go _ _ _ _ _ hlt, ← HI.out, insInner_stop _ _ _ _ hs]⟩
        have OUT : Hid _ := out
        clear out
        by_cases hja : a < j
        · have hl := hless m #[] dj hsj j (j - 1) (by omega) (by omega)
          rw [show sortWorldK enc k w blk off m dj #[] = wr by rw [HW.out]; unfold sortWorldK; rw [grow_empty]] at hl
          rw [show (((j - 1 : Nat) : Int)) = (j : Int) - 1 by omega] at hl
          have hsw := fun q => hswap (wr.drewN q) dj (hHw q) hsj j (j - 1) (by omega) (by omega)
          rw [show (((j - 1 : Nat) : Int)) = (j : Int) - 1 by omega] at hsw
          cases hlv : lt dj[j]! dj[j - 1]! with
          | true =>
            rw [hlv] at hl
            go_wp2_with (first
              | (go_at_fn gl; refine hl.mono ?_; rintro e w' ⟨rfl, q, rfl⟩)
              | (go_at_fn gs; refine (hsw _).mono ?_; rintro e w' ⟨rfl, q2, rfl⟩))
            go_roundw
            case rel =>
              (repeat apply Exists.intro)
              refine ⟨⟨j - 1, m + q + q2, swp dj j (j - 1), by congr 1 <;> omega, by omega, by omega, by rw [size_swp]; exact hsj, ?_, ?_⟩, by rw [decide_eq_true hlt, show ((j - 1 : Nat) : Int) = (j : Int) - 1 by omega]⟩
              · rw [HW.out, swap_worldK enc k hk _ m q blk off dj j (j - 1) (by omega) (by omega)]
                exact putRowK_drewN _ _ _ _ _ _ _ _
              · rw [← HI.out, insInner_go lt a j dj hja hlv]
            case measure => simp [intOf]; omega
          | false =>
            rw [hlv] at hl
            go_wp2_with (go_at_fn gl; refine hl.mono ?_; rintro e w' ⟨rfl, q, rfl⟩)
            go_roundw
            case rel => exact OUT.out (Or.inr hlv) q
            case measure => simp [intOf]; omega
        · go_wp2
          go_roundw
          case rel => exact OUT.out (Or.inl (by omega)) 0
          case measure => simp [intOf]; omega
    · -- the outer loop is at its end
      have hge : ¬ i < b := by assumption
      go_end0
      exact ⟨rfl, n, by unfold Sort.insertionSort; rw [← HO.out, insOuter_stop _ _ _ _ _ hge]⟩

/-! ### The kit's laws -/
theorem _root_.Go.Proofs.SWK.lessM {enc : α → List Value} {k : Nat} {w0 W : World} {blk off : Nat} {dk : Array α} {gl : Nat} {rv : Value} {lt : α → α → Bool} {size : Nat} (h : SWK enc k w0 blk off dk W) (hL : LessMK P gl rv enc k lt blk off size w0) (hs : dk.size = size) (i j : Nat) (hi : i < size) (hj : j < size) :
    Calls P gl #[rv, .int .i64 i, .int .i64 j] W fun e w' => e = .returned (.bool (lt dk[i]! dk[j]!)) ∧ ∃ q, w' = W.drewN q := by
  obtain ⟨n, os, rfl⟩ := h
  exact hL n os dk hs i j hi hj
theorem _root_.Go.Proofs.SWK.lessMs {enc : α → List Value} {k : Nat} {w0 W : World} {blk off : Nat} {dk : Array α} {gl : Nat} {rv : Value} {lt : α → α → Bool} {size : Nat} (h : SWK enc k w0 blk off dk W) (hL : LessMK P gl rv enc k lt blk off size w0) (hblk : blk < w0.heap.size) (hs : dk.size = size) : LessMK P gl rv enc k lt blk off size W := by
  obtain ⟨n, os, rfl⟩ := h
  exact fun m os' dk' hs' i j hi hj => by rw [sortWorldK_on enc k w0 blk off n m dk dk' os os' hblk (hs'.trans hs.symm)]; exact hL _ _ dk' hs' i j hi hj
theorem swapM_worldK (enc : α → List Value) (k : Nat) (hk : ∀ x, (enc x).length = k) (w : World) (n q blk off : Nat) (dk : Array α) (i j : Nat) (hi : i < dk.size) (hj : j < dk.size) :
    (((putRowK enc k (Sort.ahead w n) blk off dk).setCells blk (off + i * k) (enc dk[j]!)).setCells blk (off + j * k) (enc dk[i]!)).drewN q = putRowK enc k (Sort.ahead w (n + q)) blk off (swp dk i j) := by
  rw [putRowK_swp enc k hk _ blk off dk i j hi hj]; exact putRowK_drewN _ _ _ _ _ _ _ _
theorem swap_worldFK (enc : α → List Value) (k : Nat) (hk : ∀ x, (enc x).length = k) (w : World) (blk off : Nat) (dk : Array α) (n i j : Nat) (hi : i < dk.size) (hj : j < dk.size) :
    (((putRowK enc k w blk off dk).drewN n).setCells blk (off + i * k) (enc dk[j]!)).setCells blk (off + j * k) (enc dk[i]!) = (putRowK enc k w blk off (swp dk i j)).drewN n := by
  rw [← putRowK_swp enc k hk w blk off dk i j hi hj, setCells_drewN, setCells_drewN]
theorem sortWorldK_plain (enc : α → List Value) (k : Nat) (w : World) (blk off n : Nat) (X : Array α) : putRowK enc k (Sort.ahead w n) blk off X = sortWorldK enc k w blk off n X #[] := by unfold sortWorldK; rw [grow_empty]

/-- sort.insertionSort, from a world to a 'sortWorld' of it. -/
theorem insertionSort_iface_wK (L : LaysGt.n33 P ρ) (T : TypeId) (rv : Value) (gl gs : Nat) (rL : Reaches P T rv "Less" gl) (rS : Reaches P T rv "Swap" gs) (enc : α → List Value) (k : Nat) (hk : ∀ x, (enc x).length = k) (lt : α → α → Bool) (blk off a b : Nat) (d : Array α) (w : World)
    (hless : LessMK P gl rv enc k lt blk off d.size w) (hswap : SwapMK P gs rv enc k blk off d.size) (hH : HoldsK enc k w blk off d) (hab : a ≤ b) (hb : b ≤ d.size) (hsz : d.size < 4611686018427387904) :
    Calls P (ρ.f 33) #[.iface T rv, .int .i64 a, .int .i64 b] w fun e w' => e = .returned (.tuple #[]) ∧ ∃ n os, w' = sortWorldK enc k w blk off n (Sort.insertionSort lt d a b) os :=
  (insertionSort_ifaceK L T rv gl gs rL rS enc k hk lt blk off a b d w hless hswap hH hab hb hsz).mono fun _ _ ⟨he, n, hw⟩ => ⟨he, n, _, hw.trans (sortWorldK_plain enc k w blk off n _)⟩

set_option maxHeartbeats 1600000 in
set_option maxRecDepth 1000000 in
theorem reverseRange_ifaceK (L : LaysGt.n37 P ρ) (T : TypeId) (rv : Value) (gs : Nat) (rS : Reaches P T rv "Swap" gs) (enc : α → List Value) (k : Nat) (hk : ∀ x, (enc x).length = k) (blk off a b : Nat) (d : Array α) (w : World)
    (hswap : SwapMK P gs rv enc k blk off d.size) (hH : HoldsK enc k w blk off d) (hab : a ≤ b) (hb : b ≤ d.size) (hsz : d.size < 4611686018427387904) :
    Calls P (ρ.f 37) #[.iface T rv, .int .i64 a, .int .i64 b] w fun e w' => e = .returned (.tuple #[]) ∧ ∃ n, w' = putRowK enc k (Sort.ahead w n) blk off (reverseRange d a b) := by
  have mixed := L.mixed; have t0 := L.t0; have a0 := L.a0; have z0 := L.z0; have v0 := L.v0; have t3 := L.t3; have a3 := L.a3; have z3 := L.z3; have v3 := L.v3; have t4 := L.t4; have a4 := L.a4; have z4 := L.z4; have v4 := L.v4; have t26 := L.t26; have a26 := L.a26; have z26 := L.z26; have v26 := L.v26; have t38 := L.t38; have a38 := L.a38; have z38 := L.z38; have v38 := L.v38; have t43 := L.t43; have a43 := L.a43; have z43 := L.z43; have v43 := L.v43; have t45 := L.t45; have a45 := L.a45; have z45 := L.z45; have v45 := L.v45
  have mS : ∀ w, Sem.run P (method (P.types.size + 100) T rv "Swap") w = .ok (gs, rv) w := rS.finds
  have eS := rS.enters
  go_enter L.f37, BodyGt.n37_ntmps ρ
  go_wp2
  go_loopg [6, 7] (b - a) (fun kx s6 s7 wr => ∃ (i jn : Nat) (jz : Int) (dk : Array α) (n : Nat), s6 = .int .i64 i ∧ s7 = .int .i64 jz ∧ ((i : Int) < jz → jz = jn ∧ jn < d.size) ∧ (¬ (i : Int) < jz → ¬ i < jn) ∧ jn - i ≤ kx ∧
    dk.size = d.size ∧ wr = putRowK enc k (Sort.ahead w n) blk off dk ∧ reverseLoop i jn dk = reverseLoop a (b - 1) d)
  case atStart => exact ⟨a, b - 1, (b : Int) - 1, d, 0, rfl, rfl, fun h => ⟨by omega, by omega⟩, fun h => by omega, by omega, rfl, (putRowK_self enc k _ blk off d hH).symm, rfl⟩
  case round =>
    obtain ⟨i, jn, jz, dk, n, rfl, rfl, h1, h2, hkx, hds, hwr, heq⟩ := hrel
    by_cases hlt : (i : Int) < jz
    · obtain ⟨rfl, hjn⟩ := h1 hlt
      have hij : i < jn := by omega
      have hHk : HoldsK enc k wr blk off dk := by rw [hwr]; exact holdsK_putRowK enc k _ blk off d dk (holdsK_ahead enc k _ n blk off d hH) hds
      obtain ⟨Ek, hEk⟩ : ∃ Ek : Nat → List Value, ∀ t, Ek t = enc dk[t]! := ⟨fun t => enc dk[t]!, fun _ => rfl⟩
      have hs : Calls P gs #[rv, .int .i64 i, .int .i64 jn] wr fun e w' => e = .returned (.tuple #[]) ∧ ∃ q, w' = ((wr.setCells blk (off + i * k) (Ek jn)).setCells blk (off + jn * k) (Ek i)).drewN q := by
        rw [hEk, hEk]; exact hswap wr dk hHk hds i jn (by omega) (by omega)
      have A : Aside (wr = putRowK enc k (Sort.ahead w n) blk off dk) := hwr
      have AK : Hid (∀ t, Ek t = enc dk[t]!) := hEk
      clear hwr hHk hH h1 h2 hswap hEk
      go_wp2_with (go_at_fn gs; refine hs.mono ?_; rintro e w' ⟨rfl, q, rfl⟩)
      go_roundg (jn - 1 - (i + 1))
      case measure => omega
      case rel =>
        rw [reverseLoop, if_pos hij] at heq
        exact ⟨i + 1, jn - 1, (jn : Int) - 1, swp dk i jn, n + q, by simp, rfl, fun h => ⟨by omega, by omega⟩, fun h => by omega, Nat.le_refl _, by rw [size_swp]; exact hds,
          by rw [A.out, AK.out i, AK.out jn]; exact swapM_worldK enc k hk w n q blk off dk i jn (by omega) (by omega), heq⟩
    · have hnot := h2 hlt
      go_wp2
      go_end0
      refine ⟨rfl, n, ?_⟩
      rw [reverseLoop, if_neg hnot] at heq
      rw [reverseRange, ← heq]

theorem reverseRange_iface_wK (L : LaysGt.n37 P ρ) (T : TypeId) (rv : Value) (gs : Nat) (rS : Reaches P T rv "Swap" gs) (enc : α → List Value) (k : Nat) (hk : ∀ x, (enc x).length = k) (blk off a b : Nat) (d : Array α) (w : World)
    (hswap : SwapMK P gs rv enc k blk off d.size) (hH : HoldsK enc k w blk off d) (hab : a ≤ b) (hb : b ≤ d.size) (hsz : d.size < 4611686018427387904) :
    Calls P (ρ.f 37) #[.iface T rv, .int .i64 a, .int .i64 b] w fun e w' => e = .returned (.tuple #[]) ∧ ∃ n os, w' = sortWorldK enc k w blk off n (reverseRange d a b) os :=
  (reverseRange_ifaceK L T rv gs rS enc k hk blk off a b d w hswap hH hab hb hsz).mono fun _ _ ⟨he, n, hw⟩ => ⟨he, n, _, hw.trans (sortWorldK_plain enc k w blk off n _)⟩
end Go.Proofs.YthcgojhfbcgaiaaGreatDoor
