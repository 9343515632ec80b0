/- sort.Sort over elements of k cells: pdqsort, Sort. Written by turn_sort.py for this claim. Conditions: the element's cells are k, the methods' contracts (LessMK, SwapMK, LenM). -/
import Derived.Test.YthcgojhfbcgaiaaGreatDoorMAN
import Derived.Test.YthcgojhfbcgaiaaGreatDoorMAO
import Derived.Test.YthcgojhfbcgaiaaGreatDoorMAP

namespace Go.Proofs.YthcgojhfbcgaiaaGreatDoor
open Go.Shelf Go.RowKit Go.Lib Go.Sort Go.Proofs
variable {P : Program} {ρ : Ren} {α : Type} [Inhabited α]

/-- THE THREE OF THE FAMILY THAT pdqsort CALLS AND THAT ARE PROVED ELSEWHERE, as their theorems are to stand. -/
structure IfaceThreeK (P : Program) (ρ : Ren) (T : TypeId) (rv : Value) (gl gs : Nat) (enc : α → List Value) (k : Nat) (hk : ∀ x, (enc x).length = k) (lt : α → α → Bool) : Prop where
  heap : ∀ (blk off a b : Nat) (d : Array α) (W : World), LessMK P gl rv enc k lt blk off d.size W → SwapMK P gs rv enc k blk off d.size → HoldsK enc k W blk off d → blk < W.heap.size → a ≤ b → b ≤ d.size → d.size < 4611686018427387904 →
    Calls P (ρ.f 34) #[.iface T rv, .int .i64 a, .int .i64 b] W fun e w' => e = .returned (.tuple #[]) ∧ ∃ n os, w' = sortWorldK enc k W blk off n (heapSort lt d a b) os
  par : ∀ (blk off a b : Nat) (d : Array α) (W : World), LessMK P gl rv enc k lt blk off d.size W → SwapMK P gs rv enc k blk off d.size → HoldsK enc k W blk off d → blk < W.heap.size → a < b → b ≤ d.size → d.size < 4611686018427387904 →
    Calls P (ρ.f 38) #[.iface T rv, .int .i64 a, .int .i64 b] W fun e w' => e = .returned (.bool (Sort.partialInsertionSort lt d a b).2) ∧ ∃ n os, w' = sortWorldK enc k W blk off n (Sort.partialInsertionSort lt d a b).1 os
  brk : ∀ (blk off a b : Nat) (d : Array α) (W : World), SwapMK P gs rv enc k blk off d.size → HoldsK enc k W blk off d → blk < W.heap.size → a ≤ b → b ≤ d.size → d.size < 4611686018427387904 →
    Calls P (ρ.f 35) #[.iface T rv, .int .i64 a, .int .i64 b] W fun e w' => e = .returned (.tuple #[]) ∧ ∃ n os, w' = sortWorldK enc k W blk off n (breakPatterns d a b) os

set_option maxHeartbeats 12800000 in
set_option maxRecDepth 1000000 in
theorem pdqsort_ifaceK (L : LaysGt.n18 P ρ) (T : TypeId) (rv : Value) (gl gs : Nat) (rL : Reaches P T rv "Less" gl) (rS : Reaches P T rv "Swap" gs) (enc : α → List Value) (k : Nat) (hk : ∀ x, (enc x).length = k) (lt : α → α → Bool) (hO : SWO lt) (C : IfaceThreeK P ρ T rv gl gs enc k hk lt) :
    ∀ (N blk off a b limit : Nat) (d : Array α) (w : World), b - a < N → LessMK P gl rv enc k lt blk off d.size w → SwapMK P gs rv enc k blk off d.size → HoldsK enc k w blk off d → blk < w.heap.size → a ≤ b → b ≤ d.size → d.size < 4611686018427387904 → limit < 4611686018427387904 → Below lt a b d →
    Calls P (ρ.f 18) #[.iface T rv, .int .i64 a, .int .i64 b, .int .i64 limit] w fun e w' => e = .returned (.tuple #[]) ∧ AtK enc k w blk off (pdq lt d a b limit true true) w' := by
  have mixed := L.mixed; have t0 := L.t0; have a0 := L.a0; have z0 := L.z0; have v0 := L.v0; have t3 := L.t3; have a3 := L.a3; have z3 := L.z3; have v3 := L.v3; have t4 := L.t4; have a4 := L.a4; have z4 := L.z4; have v4 := L.v4; have t5 := L.t5; have a5 := L.a5; have z5 := L.z5; have v5 := L.v5; have t9 := L.t9; have a9 := L.a9; have z9 := L.z9; have v9 := L.v9; have t26 := L.t26; have a26 := L.a26; have z26 := L.z26; have v26 := L.v26; have t38 := L.t38; have a38 := L.a38; have z38 := L.z38; have v38 := L.v38; have t43 := L.t43; have a43 := L.a43; have z43 := L.z43; have v43 := L.v43; have t45 := L.t45; have a45 := L.a45; have z45 := L.z45; have v45 := L.v45; have t47 := L.t47; have a47 := L.a47; have z47 := L.z47; have v47 := L.v47; have t56 := L.t56; have a56 := L.a56; have z56 := L.z56; have v56 := L.v56; have t58 := L.t58; have a58 := L.a58; have z58 := L.z58; have v58 := L.v58; have t60 := L.t60; have a60 := L.a60; have z60 := L.z60; have v60 := L.v60; have t61 := L.t61; have a61 := L.a61; have z61 := L.z61; have v61 := L.v61; have t65 := L.t65; have a65 := L.a65; have z65 := L.z65; have v65 := L.v65; have t67 := L.t67; have a67 := L.a67; have z67 := L.z67; have v67 := L.v67; have t71 := L.t71; have a71 := L.a71; have z71 := L.z71; have v71 := L.v71; have t73 := L.t73; have a73 := L.a73; have z73 := L.z73; have v73 := L.v73; have t74 := L.t74; have a74 := L.a74; have z74 := L.z74; have v74 := L.v74
  have mL : ∀ w, Sem.run P (method (P.types.size + 100) T rv "Less") w = .ok (gl, rv) w := rL.finds
  have mS : ∀ w, Sem.run P (method (P.types.size + 100) T rv "Swap") w = .ok (gs, rv) w := rS.finds
  have eL := rL.enters; have eS := rS.enters
  have e33 : ∀ args w, (callFunc (ρ.f 33) args).run P w = .ok (.enter (ρ.f 33) args) w := enters_of L.f33 (by kernel_rfl) rfl
  have e34 : ∀ args w, (callFunc (ρ.f 34) args).run P w = .ok (.enter (ρ.f 34) args) w := enters_of L.f34 (by kernel_rfl) rfl
  have e35 : ∀ args w, (callFunc (ρ.f 35) args).run P w = .ok (.enter (ρ.f 35) args) w := enters_of L.f35 (by kernel_rfl) rfl
  have e36 : ∀ args w, (callFunc (ρ.f 36) args).run P w = .ok (.enter (ρ.f 36) args) w := enters_of L.f36 (by kernel_rfl) rfl
  have e37 : ∀ args w, (callFunc (ρ.f 37) args).run P w = .ok (.enter (ρ.f 37) args) w := enters_of L.f37 (by kernel_rfl) rfl
  have e38 : ∀ args w, (callFunc (ρ.f 38) args).run P w = .ok (.enter (ρ.f 38) args) w := enters_of L.f38 (by kernel_rfl) rfl
  have e39 : ∀ args w, (callFunc (ρ.f 39) args).run P w = .ok (.enter (ρ.f 39) args) w := enters_of L.f39 (by kernel_rfl) rfl
  have e40 : ∀ args w, (callFunc (ρ.f 40) args).run P w = .ok (.enter (ρ.f 40) args) w := enters_of L.f40 (by kernel_rfl) rfl
  have e18 : ∀ args w, (callFunc (ρ.f 18) args).run P w = .ok (.enter (ρ.f 18) args) w := enters_of L.f18 (by kernel_rfl) rfl
  intro N
  induction N with
  | zero => intro _ _ _ _ _ _ _ h; exact absurd h (Nat.not_lt_zero _)
  | succ N ih =>
    intro blk off a b limit d w hN hL hS hH hblk hab hb hsz hlimit hBel0
    have LR : ∀ {D : Array α} {X : World}, AtK enc k w blk off D X → D.size = d.size → LessMK P gl rv enc k lt blk off D.size X := fun {D X} hA hs => by rw [hs]; exact SWK.lessMs (show SWK enc k w blk off D X from hA) hL hblk hs
    have SR : ∀ {D : Array α}, D.size = d.size → SwapMK P gs rv enc k blk off D.size := fun {D} hs => by rw [hs]; exact hS
    go_enter L.f18, BodyGt.n18_ntmps ρ
    go_wp2
    go_loopg [1, 2, 3, 8, 9] (b - a) (fun kx s1 s2 s3 s8 s9 wr => ∃ (a' b' lim : Nat) (wb wp : Bool) (dk : Array α), s1 = .int .i64 a' ∧ s2 = .int .i64 b' ∧ s3 = .int .i64 lim ∧ s8 = .bool wb ∧ s9 = .bool wp ∧
      a' ≤ b' ∧ b' ≤ d.size ∧ b' - a' ≤ kx ∧ kx ≤ b - a ∧ lim ≤ limit ∧ dk.size = d.size ∧ Below lt a' b' dk ∧ AtK enc k w blk off dk wr ∧ pdq lt dk a' b' lim wb wp = pdq lt d a b limit true true)
    case atStart => exact ⟨a, b, limit, true, true, d, rfl, rfl, rfl, rfl, rfl, hab, hb, Nat.le_refl _, Nat.le_refl _, Nat.le_refl _, rfl, hBel0, SWK.start hH, rfl⟩
    case round =>
      obtain ⟨a', b', lim, wb, wp, dk, rfl, rfl, rfl, rfl, rfl, hab', hb', hkx, hkN, hlim, hds, hBel, hAt, heq⟩ := hrel
      obtain ⟨hHk, hblk'⟩ := hAt.holds hH hds hblk
      have A : Aside (pdq lt dk a' b' lim wb wp = pdq lt d a b limit true true) := heq
      clear heq
      by_cases h12 : b' - a' ≤ 12
      · -- 'if length <= maxInsertion'
        have h12z : (b' : Int) - (a' : Int) ≤ 12 := by omega
        have hc := insertionSort_iface_wK (P := P) (ρ := ρ) { L with } T rv gl gs rL rS enc k hk lt blk off a' b' dk wr (LR hAt hds) (SR hds) hHk hab' (by omega) (by omega)
        go_wp2_with (go_at_fn (ρ.f 33); refine hc.mono ?_; rintro e w1 ⟨rfl, hw1⟩)
        (try simp only [Exit.inBlock, Exit.then]); refine bodyPost_ret (results_none rfl _ _ _) rfl ?_
        refine ⟨rfl, ?_⟩
        rw [← A.out, pdq_small h12]
        exact hAt.stepG hblk (insertionSort_holds hO dk a' b' hab' (by omega)).1.1 hw1
      · have h12z : ¬ ((b' : Int) - (a' : Int) ≤ 12) := by omega
        by_cases hl0 : lim = 0
        · -- 'if limit == 0'
          subst hl0
          have hc := C.heap blk off a' b' dk wr (LR hAt hds) (SR hds) hHk hblk' hab' (by omega) (by omega)
          go_wp2_with (go_at_fn (ρ.f 34); refine hc.mono ?_; rintro e w1 ⟨rfl, hw1⟩)
          (try simp only [Exit.inBlock, Exit.then]); refine bodyPost_ret (results_none rfl _ _ _) rfl ?_
          refine ⟨rfl, ?_⟩
          rw [← A.out, pdq_heap h12 rfl]
          exact hAt.stepG hblk (heapSort_holds hO dk a' b' hab' (by omega)).1.1 hw1
        · have hl0z : ¬ ((lim : Int) = 0) := by omega
          obtain ⟨s1, B1, hc1, s2, B2, hpv, s3, B3⟩ := rd_facts (lt := lt) (limit := lim) (wb := wb) (wp := wp) hO partialInsertionSort_holds reverseRange_holds (show a' < b' by omega) (show b' ≤ dk.size by omega) hBel
          -- ████ 'if !wasBalanced { breakPatterns; limit-- }': THE WAYS MEET
          go_upto_if 35 with fail
          go_cut [3] from 19 (fun s3 wc => s3 = .int .i64 (rd lt dk a' b' lim wb wp).lim ∧ AtK enc k w blk off (rd lt dk a' b' lim wb wp).d1 wc)
          case first =>
            cases wb
            · have hc := C.brk blk off a' b' dk wr (SR hds) hHk hblk' hab' (by omega) (by omega)
              go_wp2_with (go_at_fn (ρ.f 35); refine hc.mono ?_; rintro e w1 ⟨rfl, hw1⟩)
              go_meet
              case rel =>
                refine ⟨?_, hAt.stepG hblk s1 hw1⟩
                show Value.int .i64 ((lim : Int) - 1) = Value.int .i64 ((lim - 1 : Nat) : Int)
                congr 1
                omega
            · go_wp2_with fail
              go_meet
              case rel => exact ⟨rfl, hAt⟩
          case rest =>
            obtain ⟨rfl, hAt1⟩ := hcut
            obtain ⟨hH1, hblk1⟩ := hAt1.holds hH (s1.trans hds) hblk
            have hc17 : Calls P (ρ.f 36) #[.iface T rv, .int .i64 a', .int .i64 b'] wc fun e w' => e = .returned (.tuple #[.int .i64 (rd lt dk a' b' lim wb wp).c.1, .int .i64 (hintCode (rd lt dk a' b' lim wb wp).c.2)]) ∧ ∃ n os, w' = grow (Sort.ahead wc n) os :=
              choosePivot_ifaceK (P := P) (ρ := ρ) { L with } T rv gl rL enc k hk lt blk off a' b' wc (rd lt dk a' b' lim wb wp).d1 (LR hAt1 (s1.trans hds)) hH1 (by omega) (by omega) (by omega)
            go_upto_if 50 with (go_at_fn (ρ.f 36); refine hc17.mono ?_; rintro e w2 ⟨rfl, hw2⟩)
            have hAt2 : AtK enc k w blk off (rd lt dk a' b' lim wb wp).d1 w2 := hAt1.same hH (s1.trans hds) hblk hw2
            obtain ⟨hH2, hblk2⟩ := hAt2.holds hH (s1.trans hds) hblk
            -- ████ 'if hint == decreasingHint { reverseRange; pivot = ..; hint = increasingHint }': THE WAYS MEET
            go_cut [11, 12] from 19 (fun s11 s12 wc => s11 = .int .i64 (rd lt dk a' b' lim wb wp).pivot ∧ s12 = .int .i64 (hintCode (rd lt dk a' b' lim wb wp).hint) ∧ AtK enc k w blk off (rd lt dk a' b' lim wb wp).d2 wc)
            case first =>
              by_cases hh : (rd lt dk a' b' lim wb wp).c.2 = .decreasing
              · have hcode : hintCode (rd lt dk a' b' lim wb wp).c.2 = 2 := by rw [hh]; rfl
                obtain ⟨e2, epv, eht⟩ := rd_dec hh
                have hc18 := reverseRange_iface_wK (P := P) (ρ := ρ) { L with } T rv gs rS enc k hk blk off a' b' (rd lt dk a' b' lim wb wp).d1 w2 (SR (s1.trans hds)) hH2 hab' (by omega) (by omega)
                go_wp2_with (go_at_fn (ρ.f 37); refine hc18.mono ?_; rintro e w3 ⟨rfl, hw3⟩)
                go_meet
                case rel =>
                  refine ⟨?_, by rw [eht]; rfl, by rw [e2]; exact hAt2.stepG hblk (by rw [← e2, s2, s1]) hw3⟩
                  rw [epv]
                  congr 1
                  omega
              · have hcode : ¬ (hintCode (rd lt dk a' b' lim wb wp).c.2 = 2) := fun h => hh (hintCode_two h)
                obtain ⟨e2, epv, eht⟩ := rd_not hh
                go_wp2_with fail
                go_meet
                case rel => exact ⟨by rw [epv], by rw [eht], by rw [e2]; exact hAt2⟩
            case rest =>
              obtain ⟨rfl, rfl, hAt3⟩ := hcut
              obtain ⟨hH3, hblk3⟩ := hAt3.holds hH (s2.trans hds) hblk
              -- ████ THE TEST 'wasBalanced && wasPartitioned && hint == increasingHint', over Booleans that are variables: THE WAYS THROUGH THE REGION MEET
              go_upto_region 15 with fail
              go_cut [12, 68] from 19 (fun s12 s68 wx => s12 = .int .i64 (hintCode (rd lt dk a' b' lim wb wp).hint) ∧ s68 = .bool (wb && wp && decide ((rd lt dk a' b' lim wb wp).hint = .increasing)) ∧ wx = wc)
              case first =>
                cases wb <;> cases wp <;> cases hh3 : (rd lt dk a' b' lim _ _).hint <;>
                  (have hcode3 := congrArg hintCode hh3
                   simp only [hintCode] at hcode3
                   go_wp2_with fail
                   go_meet
                   exact ⟨by simp [hh3, hintCode], by simp [hh3, hintCode], rfl⟩)
              case rest =>
                obtain ⟨rfl, rfl, rfl⟩ := hcut
                -- ████ 'if .. { if partialInsertionSort(..) { return } }': THE WAYS MEET (one returns)
                go_upto_if 68 with fail
                go_cut [] from 19 (fun wx => (rd lt dk a' b' lim wb wp).pi.2 = false ∧ AtK enc k w blk off (rd lt dk a' b' lim wb wp).pi.1 wx)
                case first =>
                  cases h68 : (wb && wp && decide ((rd lt dk a' b' lim wb wp).hint = .increasing))
                  · have epi := rd_pi_no h68
                    go_wp2_with fail
                    go_meet
                    case rel => exact ⟨by rw [epi], by rw [epi]; exact hAt3⟩
                  · have epi := rd_pi_yes h68
                    have hc19 := C.par blk off a' b' (rd lt dk a' b' lim wb wp).d2 wc (LR hAt3 (s2.trans hds)) (SR (s2.trans hds)) hH3 hblk3 (by omega) (by omega) (by omega)
                    rw [← epi] at hc19
                    go_wp2_with (go_at_fn (ρ.f 38); refine hc19.mono ?_; rintro e w4 ⟨rfl, hw4⟩)
                    all_goals first
                      | (have hp2 : (rd lt dk a' b' lim wb wp).pi.2 = false := by rw [epi]; assumption
                         go_meet
                         exact ⟨hp2, hAt3.stepG hblk (by rw [s3, s2]) hw4⟩)
                      | (have hp2 : (rd lt dk a' b' lim wb wp).pi.2 = true := by rw [epi]; assumption
                         (try simp only [Exit.inBlock, Exit.then]); refine bodyPost_ret (results_none rfl _ _ _) rfl ?_
                         refine ⟨rfl, ?_⟩
                         rw [← A.out, pdq_done h12 hl0 hp2]
                         exact hAt3.stepG hblk (by rw [s3, s2]) hw4)
                case rest =>
                  obtain ⟨hp2, hAt5⟩ := hcut
                  obtain ⟨hH5, hblk5⟩ := hAt5.holds hH (s3.trans hds) hblk
                  -- ████ THE TEST 'a > 0 && !data.Less(a-1, pivot)': its guard must be parted on: THE WAYS THROUGH THE REGION MEET
                  go_upto_region 17 with fail
                  go_cut [82] from 19 (fun s82 wx => s82 = .bool (decide (a' > 0) && !lt (rd lt dk a' b' lim wb wp).pi.1[a' - 1]! (rd lt dk a' b' lim wb wp).pi.1[(rd lt dk a' b' lim wb wp).pivot]!) ∧ AtK enc k w blk off (rd lt dk a' b' lim wb wp).pi.1 wx)
                  case first =>
                    rcases Nat.eq_zero_or_pos a' with ha0 | ha0
                    · have ha0z : decide ((a' : Int) > 0) = false := decide_eq_false (by omega)
                      go_wp2_with fail
                      go_meet
                      case rel => exact ⟨by simp [ha0], hAt5⟩
                    · have ha0z : (a' : Int) > 0 := by omega
                      have hl := SWK.lessM (show SWK enc k w blk off (rd lt dk a' b' lim wb wp).pi.1 wc from hAt5) hL (s3.trans hds) (a' - 1) (rd lt dk a' b' lim wb wp).pivot (by omega) (by omega)
                      rw [show ((a' - 1 : Nat) : Int) = (a' : Int) - 1 by omega] at hl
                      cases hlv : lt (rd lt dk a' b' lim wb wp).pi.1[a' - 1]! (rd lt dk a' b' lim wb wp).pi.1[(rd lt dk a' b' lim wb wp).pivot]! <;>
                        (rw [hlv] at hl
                         go_wp2_with (go_at_fn gl; refine hl.mono ?_; rintro e w' ⟨rfl, nq, rfl⟩)
                         go_meet
                         exact ⟨by simp [ha0, hlv], hAt5.ahead nq⟩)
                  case rest =>
                    obtain ⟨rfl, hAt6⟩ := hcut
                    obtain ⟨hH6, hblk6⟩ := hAt6.holds hH (s3.trans hds) hblk
                    cases h87 : (decide (a' > 0) && !lt (rd lt dk a' b' lim wb wp).pi.1[a' - 1]! (rd lt dk a' b' lim wb wp).pi.1[(rd lt dk a' b' lim wb wp).pivot]!)
                    · -- ████ 'mid, alreadyPartitioned := partition_func(..)'; THE SMALLER SIDE BY A CALL OF ITSELF, the other by the next round
                      obtain ⟨mid, ap, d4, hx⟩ : ∃ mid ap d4, partition lt (rd lt dk a' b' lim wb wp).pi.1 a' b' (rd lt dk a' b' lim wb wp).pivot = (mid, ap, d4) := ⟨(partition lt (rd lt dk a' b' lim wb wp).pi.1 a' b' (rd lt dk a' b' lim wb wp).pivot).1, (partition lt (rd lt dk a' b' lim wb wp).pi.1 a' b' (rd lt dk a' b' lim wb wp).pivot).2.1, (partition lt (rd lt dk a' b' lim wb wp).pi.1 a' b' (rd lt dk a' b' lim wb wp).pivot).2.2, rfl⟩
                      obtain ⟨r1, r2, r3, r4, r5, r6, r7⟩ := round_part hO (partition_holds lt) hpv.1 hpv.2 (show b' ≤ (rd lt dk a' b' lim wb wp).pi.1.size by omega) B3 hx
                      have hc22 := partition_iface_wK (P := P) (ρ := ρ) { L with } T rv gl gs rL rS enc k hk lt blk off a' b' (rd lt dk a' b' lim wb wp).pivot (rd lt dk a' b' lim wb wp).pi.1 wc (LR hAt6 (s3.trans hds)) (SR (s3.trans hds)) hH6 hpv.1 hpv.2 (by omega) (by omega)
                      rw [hx] at hc22
                      have X : Aside (partition lt (rd lt dk a' b' lim wb wp).pi.1 a' b' (rd lt dk a' b' lim wb wp).pivot = (mid, ap, d4)) := hx
                      clear hx
                      go_upto_if 108 with (go_at_fn (ρ.f 40); refine hc22.mono ?_; rintro e w7 ⟨rfl, hw7⟩)
                      have hx := X.out
                      have hs4 : d4.size = d.size := r3.trans (s3.trans hds)
                      have hAt7 : AtK enc k w blk off d4 w7 := hAt6.stepG hblk r3 hw7
                      obtain ⟨hH7, hblk7⟩ := hAt7.holds hH hs4 hblk
                      by_cases h4 : mid - a' < b' - mid
                      · have h4z : (mid : Int) - (a' : Int) < (b' : Int) - (mid : Int) := by omega
                        have hih := ih blk off a' mid (rd lt dk a' b' lim wb wp).lim d4 w7 (by omega) (LR hAt7 hs4) (SR hs4) hH7 hblk7 (by omega) (by omega) (by omega) (Nat.lt_of_le_of_lt (Nat.le_trans rd_lim_le hlim) hlimit) r4
                        obtain ⟨pL, sL⟩ := pdq_sorts lt hO d4 a' mid (rd lt dk a' b' lim wb wp).lim true true (by omega) (by omega) r4
                        go_wp2_with (go_at_fn (ρ.f 18); refine hih.mono ?_; rintro e w8 ⟨rfl, hw8⟩)
                        go_roundg (b' - (mid + 1))
                        case measure => omega
                        case rel =>
                          refine ⟨mid + 1, b', (rd lt dk a' b' lim wb wp).lim, decide (mid - a' ≥ (b' - a') / 8), ap, pdq lt d4 a' mid (rd lt dk a' b' lim wb wp).lim true true, by simp, rfl, rfl, ?_, rfl, by omega, by omega, Nat.le_refl _, by omega, Nat.le_trans rd_lim_le hlim, by rw [pL.1, hs4], (r6 _ pL sL).1, hAt7.stepG hblk pL.1 hw8, ?_⟩
                          · exact congrArg Value.bool (eighth (by omega) (by omega))
                          · rw [← A.out, pdq_left h12 hl0 hp2 h87 (by rw [hx]; exact ⟨r1, r2⟩) (by rw [hx]; exact h4), hx]
                      · have h4z : ¬ ((mid : Int) - (a' : Int) < (b' : Int) - (mid : Int)) := by omega
                        have hih := ih blk off (mid + 1) b' (rd lt dk a' b' lim wb wp).lim d4 w7 (by omega) (LR hAt7 hs4) (SR hs4) hH7 hblk7 (by omega) (by omega) (by omega) (Nat.lt_of_le_of_lt (Nat.le_trans rd_lim_le hlim) hlimit) r5
                        rw [show ((mid + 1 : Nat) : Int) = (mid : Int) + 1 by omega] at hih
                        obtain ⟨pL, sL⟩ := pdq_sorts lt hO d4 (mid + 1) b' (rd lt dk a' b' lim wb wp).lim true true (by omega) (by omega) r5
                        go_wp2_with (go_at_fn (ρ.f 18); refine hih.mono ?_; rintro e w8 ⟨rfl, hw8⟩)
                        go_roundg (mid - a')
                        case measure => omega
                        case rel =>
                          refine ⟨a', mid, (rd lt dk a' b' lim wb wp).lim, decide (b' - mid ≥ (b' - a') / 8), ap, pdq lt d4 (mid + 1) b' (rd lt dk a' b' lim wb wp).lim true true, rfl, rfl, rfl, ?_, rfl, by omega, by omega, Nat.le_refl _, by omega, Nat.le_trans rd_lim_le hlim, by rw [pL.1, hs4], (r7 _ pL sL).1, hAt7.stepG hblk pL.1 hw8, ?_⟩
                          · exact congrArg Value.bool (eighth (by omega) (by omega))
                          · rw [← A.out, pdq_right h12 hl0 hp2 h87 (by rw [hx]; exact ⟨r1, r2⟩) (by rw [hx]; exact h4), hx]
                    · -- ████ 'mid := partitionEqual_func(..); a = mid; continue'
                      have h87' := h87
                      simp only [Bool.and_eq_true, decide_eq_true_eq, Bool.not_eq_true'] at h87'
                      obtain ⟨mid, d4, hx⟩ : ∃ mid d4, partitionEqual lt (rd lt dk a' b' lim wb wp).pi.1 a' b' (rd lt dk a' b' lim wb wp).pivot = (mid, d4) := ⟨(partitionEqual lt (rd lt dk a' b' lim wb wp).pi.1 a' b' (rd lt dk a' b' lim wb wp).pivot).1, (partitionEqual lt (rd lt dk a' b' lim wb wp).pi.1 a' b' (rd lt dk a' b' lim wb wp).pivot).2, rfl⟩
                      obtain ⟨r1, r2, r3, r4, _⟩ := round_eq hO (partitionEqual_holds lt) h87'.1 hpv.1 hpv.2 (show b' ≤ (rd lt dk a' b' lim wb wp).pi.1.size by omega) B3 h87'.2 hx
                      have hc21 := partitionEqual_iface_wK (P := P) (ρ := ρ) { L with } T rv gl gs rL rS enc k hk lt blk off a' b' (rd lt dk a' b' lim wb wp).pivot (rd lt dk a' b' lim wb wp).pi.1 wc (LR hAt6 (s3.trans hds)) (SR (s3.trans hds)) hH6 hpv.1 hpv.2 (by omega) (by omega)
                      rw [hx] at hc21
                      have X : Aside (partitionEqual lt (rd lt dk a' b' lim wb wp).pi.1 a' b' (rd lt dk a' b' lim wb wp).pivot = (mid, d4)) := hx
                      clear hx
                      go_wp2_with (go_at_fn (ρ.f 39); refine hc21.mono ?_; rintro e w7 ⟨rfl, hw7⟩)
                      go_roundg (b' - mid)
                      case measure => omega
                      case rel =>
                        have hx := X.out
                        exact ⟨mid, b', (rd lt dk a' b' lim wb wp).lim, wb, wp, d4, rfl, rfl, rfl, rfl, rfl, r2, hb', Nat.le_refl _, by omega, Nat.le_trans rd_lim_le hlim, by rw [r3, s3, hds], r4, hAt6.stepG hblk r3 hw7, by rw [← A.out, pdq_eq h12 hl0 hp2 h87 (by rw [hx]; exact ⟨r1, r2⟩), hx]⟩



/-- THE THREE THAT pdqsort TOOK AS PREMISES: PAID: the authors' (Derived/Shelf/SlSortIface/). -/
theorem ifaceThreeK (L : LaysGt.n18 P ρ) (T : TypeId) (rv : Value) (gl gs : Nat) (rL : Reaches P T rv "Less" gl) (rS : Reaches P T rv "Swap" gs) (enc : α → List Value) (k : Nat) (hk : ∀ x, (enc x).length = k) (lt : α → α → Bool) : IfaceThreeK P ρ T rv gl gs enc k hk lt where
  heap := fun blk off a b d W hl hs hH hblk hab hb hsz => heapSort_iface_wK { L with } T rv gl gs rL rS enc k hk lt blk off a b d W hl hs hH hblk hab hb hsz
  par := fun blk off a b d W hl hs hH _ hab hb hsz => partialInsertionSort_iface_wK { L with } T rv gl gs rL rS enc k hk lt blk off a b d W hl hs hH hab hb hsz
  brk := fun blk off a b d W hs hH hblk hab hb hsz => breakPatterns_iface_wK { L with } T rv gs rS enc k hk blk off a b d W hs hH hblk hab hb hsz

set_option maxHeartbeats 1000000 in
set_option maxRecDepth 100000 in
/-- **sort.Sort: WHAT THE ROW HOLDS, TO THE ELEMENT.** -/
theorem sort_Sort_eqK (L : LaysGt.n11 P ρ) (T : TypeId) (rv : Value) (gn gl gs : Nat) (rN : Reaches P T rv "Len" gn) (rL : Reaches P T rv "Less" gl) (rS : Reaches P T rv "Swap" gs) (enc : α → List Value) (k : Nat) (hk : ∀ x, (enc x).length = k) (lt : α → α → Bool) (hO : SWO lt) (blk off : Nat) (d : Array α) (h2 : 2 ≤ d.size) (hsz : d.size < 4611686018427387904) (w : World)
    (hlen : LenM P gn rv d.size w) (hless : LessMK P gl rv enc k lt blk off d.size w) (hswap : SwapMK P gs rv enc k blk off d.size) (hH : HoldsK enc k w blk off d) (hblk : blk < w.heap.size) :
    Calls P (ρ.f 11) #[.iface T rv] w fun e w' => e = .returned (.tuple #[]) ∧ ∃ n os, w' = grow (putRowK enc k (Sort.ahead w n) blk off (pdq lt d 0 d.size (Lib.bitLen d.size) true true)) os := by
  have mixed := L.mixed; have t0 := L.t0; have a0 := L.a0; have z0 := L.z0; have v0 := L.v0; have t3 := L.t3; have a3 := L.a3; have z3 := L.z3; have v3 := L.v3; have t4 := L.t4; have a4 := L.a4; have z4 := L.z4; have v4 := L.v4; have t5 := L.t5; have a5 := L.a5; have z5 := L.z5; have v5 := L.v5; have t9 := L.t9; have a9 := L.a9; have z9 := L.z9; have v9 := L.v9; have t26 := L.t26; have a26 := L.a26; have z26 := L.z26; have v26 := L.v26; have t38 := L.t38; have a38 := L.a38; have z38 := L.z38; have v38 := L.v38; have t43 := L.t43; have a43 := L.a43; have z43 := L.z43; have v43 := L.v43; have t45 := L.t45; have a45 := L.a45; have z45 := L.z45; have v45 := L.v45; have t47 := L.t47; have a47 := L.a47; have z47 := L.z47; have v47 := L.v47; have t56 := L.t56; have a56 := L.a56; have z56 := L.z56; have v56 := L.v56; have t58 := L.t58; have a58 := L.a58; have z58 := L.z58; have v58 := L.v58; have t60 := L.t60; have a60 := L.a60; have z60 := L.z60; have v60 := L.v60; have t61 := L.t61; have a61 := L.a61; have z61 := L.z61; have v61 := L.v61; have t65 := L.t65; have a65 := L.a65; have z65 := L.z65; have v65 := L.v65; have t67 := L.t67; have a67 := L.a67; have z67 := L.z67; have v67 := L.v67; have t71 := L.t71; have a71 := L.a71; have z71 := L.z71; have v71 := L.v71; have t73 := L.t73; have a73 := L.a73; have z73 := L.z73; have v73 := L.v73; have t74 := L.t74; have a74 := L.a74; have z74 := L.z74; have v74 := L.v74
  have mN : ∀ w, Sem.run P (method (P.types.size + 100) T rv "Len") w = .ok (gn, rv) w := rN.finds
  have eN := rN.enters
  have e17 : ∀ args w, (callFunc (ρ.f 17) args).run P w = .ok (.enter (ρ.f 17) args) w := enters_of L.f17 (by kernel_rfl) rfl
  have e18 : ∀ args w, (callFunc (ρ.f 18) args).run P w = .ok (.enter (ρ.f 18) args) w := enters_of L.f18 (by kernel_rfl) rfl
  have hb := fun w => Any.bits_Len (LaysGg.n13.bits (({ L with } : LaysGt.n17 P ρ).elder)) (d.size : Int) w (by omega) (by omega)
  change ∀ w, Calls P (ρ.f 17) _ w _ at hb
  have wr : IntKind.u64.wrap (d.size : Int) = d.size := by simp [IntKind.wrap, IntKind.bits, IntKind.signed]; omega
  have hlim : Lib.bitLen d.size < 4611686018427387904 := Nat.lt_of_le_of_lt (Lib.bitLen_le d.size 62 (by omega) (by omega)) (by omega)
  have hp := fun q => pdqsort_ifaceK (P := P) (ρ := ρ) { L with } T rv gl gs rL rS enc k hk lt hO (ifaceThreeK { L with } T rv gl gs rL rS enc k hk lt) (d.size + 1) blk off 0 d.size (Lib.bitLen d.size) d (w.drewN q) (by omega)
    (((SWK.start hH).drewN q).lessMs hless hblk rfl) hswap (holdsK_ahead enc k w q blk off d hH) hblk (Nat.zero_le _) (Nat.le_refl _) hsz hlim (Or.inl rfl)
  clear hless hswap hH
  go_enter L.f11, BodyGt.n11_ntmps ρ
  go_wp2_with (first
    | (go_at_fn gn; refine hlen.mono ?_; rintro e w' ⟨rfl, q, rfl⟩)
    | (go_at_fn (ρ.f 17); refine (hb _).mono ?_; rintro e w' ⟨rfl, rfl⟩)
    | (go_at_fn (ρ.f 18); refine (hp _).mono ?_; rintro e w' ⟨rfl, n, os, rfl⟩))
  all_goals first
    | (exfalso; omega)
    | (go_end0; exact ⟨rfl, q + n, os, by rw [show w.drewN q = Sort.ahead w q from rfl, ahead_ahead]⟩)

/-- **sort.Sort, IN THE DOCUMENTATION's OWN TERMS ("Sort sorts data in ascending order as determined by the Less method. .. The sort is not guaranteed to be stable"): A PERMUTATION OF WHAT THE ROW HELD, SORTED BY 'lt'.** -/
theorem sort_Sort_sortedK (L : LaysGt.n11 P ρ) (T : TypeId) (rv : Value) (gn gl gs : Nat) (rN : Reaches P T rv "Len" gn) (rL : Reaches P T rv "Less" gl) (rS : Reaches P T rv "Swap" gs) (enc : α → List Value) (k : Nat) (hk : ∀ x, (enc x).length = k) (lt : α → α → Bool) (hO : SWO lt) (blk off : Nat) (d : Array α) (h2 : 2 ≤ d.size) (hsz : d.size < 4611686018427387904) (w : World)
    (hlen : LenM P gn rv d.size w) (hless : LessMK P gl rv enc k lt blk off d.size w) (hswap : SwapMK P gs rv enc k blk off d.size) (hH : HoldsK enc k w blk off d) (hblk : blk < w.heap.size) :
    Calls P (ρ.f 11) #[.iface T rv] w fun e w' => e = .returned (.tuple #[]) ∧ ∃ d' n os, PermIn 0 d.size d d' ∧ SortedIn lt 0 d.size d' ∧ w' = grow (putRowK enc k (Sort.ahead w n) blk off d') os :=
  (sort_Sort_eqK L T rv gn gl gs rN rL rS enc k hk lt hO blk off d h2 hsz w hlen hless hswap hH hblk).mono fun _ _ ⟨he, n, os, hw⟩ =>
    have h := pdq_sorts lt hO d 0 d.size (Lib.bitLen d.size) true true (Nat.zero_le _) (Nat.le_refl _) (Or.inl rfl)
    ⟨he, _, n, os, h.1, h.2, hw⟩
end Go.Proofs.YthcgojhfbcgaiaaGreatDoor
