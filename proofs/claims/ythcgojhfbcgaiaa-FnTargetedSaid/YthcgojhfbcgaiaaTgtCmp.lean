/- The stream's compress. Conditions: the stream and its summary lie in memory. -/
import Derived.Test.YthcgojhfbcgaiaaTgtCmpM
import Derived.Deep.RegionHeld3
import Derived.Deep.RegionLaw
import Derived.StillTailTactics
import Derived.WalkKit
import Derived.Deep.Cut
namespace Go.Proofs.Ythcgojhfbcgaiaa
open Go.RowKit Go.Sort Go.Proofs
open Ckms (Sm tot)

/-- What compress has at a place: what is left in front, the sample at hand, what is done behind. -/
def CInv (k n : Nat) (L0 : List Sm) (Pre : List Sm) (x : Sm) (acc : List Sm) : Prop :=
  Ckms.comp (Ckms.Fq k) n x Pre.reverse acc = Ckms.compress (Ckms.Fq k) n L0 ∧ tot Pre + x.g + tot acc = n ∧ (∀ y ∈ Pre ++ x :: acc, 1 ≤ y.g ∧ y.d ≤ 1200) ∧ n ≤ 1200

theorem CInv.step {k n : Nat} {L0 P acc : List Sm} {x c : Sm} (h : CInv k n L0 (P ++ [c]) x acc) (hlt : ¬ c.g + x.g + x.d ≤ Ckms.Fq k (tot P + c.g - 1) n) : CInv k n L0 P c (x :: acc) := by
  obtain ⟨h1, h2, h3, h4⟩ := h
  have ht : tot (P ++ [c]) = tot P + c.g := by rw [Ckms.tot_append]; simp [tot]
  have hrev : ∀ Q : List Sm, tot Q.reverse = tot Q := fun Q => by
    induction Q with
    | nil => rfl
    | cons y Q ih => rw [List.reverse_cons, Ckms.tot_append, ih]; simp [tot]; omega
  refine ⟨?_, by simp only [tot]; omega, fun y hy => h3 y (by simpa using hy), ?_⟩
  · rw [← h1, List.reverse_append]
    show _ = Ckms.comp (Ckms.Fq k) n x (c :: P.reverse) acc
    rw [Ckms.comp]
    have e : tot (c :: P.reverse) - 1 = tot P + c.g - 1 := by simp only [tot]; rw [hrev]; omega
    rw [e, if_neg hlt]
  · omega
theorem lenTot (D : List Sm) (h : ∀ x ∈ D, 1 ≤ x.g) : D.length ≤ tot D := by
  induction D with
  | nil => simp
  | cons x D ih => have := h x (by simp); have := ih (fun y hy => h y (by simp [hy])); simp only [tot, List.length_cons]; omega
theorem CInv.join {k n : Nat} {L0 P acc : List Sm} {x c : Sm} (h : CInv k n L0 (P ++ [c]) x acc) (hlt : c.g + x.g + x.d ≤ Ckms.Fq k (tot P + c.g - 1) n) : CInv k n L0 P ⟨x.v, x.g + c.g, x.d⟩ acc := by
  obtain ⟨h1, h2, h3, h4⟩ := h
  have ht : tot (P ++ [c]) = tot P + c.g := by rw [Ckms.tot_append]; simp [tot]
  have hrev : ∀ Q : List Sm, tot Q.reverse = tot Q := fun Q => by
    induction Q with
    | nil => rfl
    | cons y Q ih => rw [List.reverse_cons, Ckms.tot_append, ih]; simp [tot]; omega
  refine ⟨?_, by show tot P + (x.g + c.g) + tot acc = n; omega, fun y hy => ?_, h4⟩
  · rw [← h1, List.reverse_append]
    show _ = Ckms.comp (Ckms.Fq k) n x (c :: P.reverse) acc
    rw [Ckms.comp]
    have e : tot (c :: P.reverse) - 1 = tot P + c.g - 1 := by simp only [tot]; rw [hrev]; omega
    rw [e, if_pos hlt]
  · simp at hy
    rcases hy with hy | rfl | hy
    · exact h3 y (by simp [hy])
    · have a := h3 x (by simp)
      exact ⟨by show 1 ≤ x.g + c.g; omega, a.2⟩
    · exact h3 y (by simp [hy])
structure CMem (w0 w : World) (base top S T Q QA B k m n X : Nat) (so : Bool) (bc : Array Value) (lv : Value) (L : List SmpF) (x : Sm) : Prop where
  ms : MS w base top S T Q QA B k m n so bc lv L
  bel : RowKit.Below base w0 w
  hx : w.heap[X]? = some (.cells #[.float .f64 (fN x.v).b, .float .f64 (floatOfInt .f64 (x.g : Int)), .float .f64 (floatOfInt .f64 (x.d : Int))] 88)
  far : top ≤ X ∧ ∀ g, lv.ownBlock = some g → g < X

section
variable {w0 w : World} {base top S T Q QA B k m n X : Nat} {so : Bool} {bc : Array Value} {lv : Value} {L : List SmpF} {x : Sm}
theorem CMem.clo (h : CMem w0 w base top S T Q QA B k m n X so bc lv L x) (qf ef d : Nat) : CMem w0 (cloW w.drew qf ef d) base top S T Q QA B k m n X so bc lv L x := by
  have hb : base ≤ w.heap.size := by have := h.ms.bt; have := h.ms.sz; omega
  refine ⟨?_, ?_, cloW_at (w := w.drew) h.hx qf ef d, h.far⟩
  · unfold cloW; exact ((h.ms.drewN 1).alloc _).drewN d
  · unfold cloW; exact below_drewN (h.bel.drew.alloc hb _) d
/-- A store into the sample at hand. -/
theorem CMem.ms_set (h : CMem w0 w base top S T Q QA B k m n X so bc lv L x) (i : Nat) (v : Value) : MS (w.setCell ⟨X, i, none⟩ v) base top S T Q QA B k m n so bc lv L ∧ RowKit.Below base w0 (w.setCell ⟨X, i, none⟩ v) := by
  obtain ⟨l1, l2, l3, l4, l5⟩ := h.ms.lt
  have hX := h.far.1
  refine ⟨⟨⟨at_set_other _ (by show X ≠ S; omega) h.ms.str.hS, at_set_other _ (by show X ≠ T; omega) h.ms.str.hT, at_set_other _ (by show X ≠ Q; omega) h.ms.str.hQ, at_set_other _ (by show X ≠ QA; omega) h.ms.str.hQA, at_set_other _ (by show X ≠ B; omega) h.ms.str.hB, h.ms.str.bsize, h.ms.str.lt, h.ms.str.ne⟩, own_set_far h.ms.own (fun e => by have := h.far.2 X e.symm; omega) v, h.ms.lt, by have := h.ms.sz; simp [World.setCell]; omega, h.ms.bt⟩, h.bel.setCell (p := ⟨X, i, none⟩) (by have := h.ms.bt; show base ≤ X; omega) v⟩
end

theorem setCells_drew (w : World) (b : Nat) : ∀ (vs : List Value) (i : Nat), w.drew.setCells b i vs = (w.setCells b i vs).drew
  | [], _ => rfl
  | v :: r, i => setCells_drew (w.setCell ⟨b, i, none⟩ v) b r (i + 1)
theorem remW_eq (w : World) (T g cap : Nat) (A Z : List SmpF) (x' : SmpF) : remW w T g cap A Z x' =
    (((w.setCells g ((A.length + 1) * 3) (encSmp x')).drew.drew.setCells g (A.length * 3) (flatS (x' :: Z))).setCell ⟨T, 1, none⟩ (.slice (some ⟨g, 0, none⟩) (A ++ x' :: Z).length cap)).drew := by
  unfold remW remB
  generalize encSmp x' = e
  generalize flatS (x' :: Z) = f
  rw [setCells_drew w]
  exact World.setCell_drew _ _
theorem CMem.remove {w0 w : World} {base top S T Q QA B k m n X g cap : Nat} {so : Bool} {bc : Array Value} {A Z : List SmpF} {c y : SmpF} {x : Sm}
    (h : CMem w0 w base top S T Q QA B k m n X so bc (.slice (some ⟨g, 0, none⟩) (A ++ c :: y :: Z).length cap) (A ++ c :: y :: Z) x) (x' : SmpF) :
    CMem w0 (remW w T g cap A Z x') base top S T Q QA B k m n X so bc (.slice (some ⟨g, 0, none⟩) (A ++ x' :: Z).length cap) (A ++ x' :: Z) x := by
  have hg : top ≤ g := (h.ms.own.lt g rfl).1
  have hbt := h.ms.bt
  have hT := h.ms.lt.2.1
  have hX := h.far.1
  have hgX := h.far.2 g rfl
  refine ⟨h.ms.remove x', ?_, ?_, ⟨hX, fun q hq => h.far.2 q hq⟩⟩
  · unfold remW remB
    generalize encSmp x' = e
    generalize flatS (x' :: Z) = f
    exact (below_sets (by omega) _ _ _ (below_sets (by omega) _ _ _ h.bel.drew).drew).drew.setCell (p := ⟨T, 1, none⟩) h.ms.str.lt.2.1 _
  · have hr := remB_far (A := A) (Z := Z) (x' := x') (show ¬ g = X by omega) h.hx
    unfold remW
    generalize remB w g A Z x' = wB at hr
    exact at_set_other (w := wB.drew) _ (by show T ≠ X; omega) hr

set_option maxRecDepth 100000 in
set_option maxHeartbeats 4000000 in
theorem compress_calls {w : World} {base top S T Q QA B k m n : Nat} {so : Bool} {bc : Array Value} {lv : Value} (L0 : List Sm) (hk1 : 1 ≤ k) (hk2 : k ≤ 15)
    (h : MS w base top S T Q QA B k m n so bc lv (L0.map smF)) (hn : n ≤ 1200) (hL : tot L0 = n) (hLb : ∀ x ∈ L0, 1 ≤ x.g ∧ x.d ≤ 1200) :
    Calls Try.prog 84 #[.pointer (some ⟨T, 0, none⟩)] w fun r w' => r = .returned (.tuple #[]) ∧ ∃ lv', MS w' base top S T Q QA B k m n so bc lv' ((Ckms.compress (Ckms.Fq k) n L0).map smF) ∧ RowKit.Below base w w' := by
  obtain ⟨oa, oc, hlv⟩ := own_slice h.own
  rw [List.length_map] at hlv
  subst hlv
  have t1 : w.cell? ⟨T, 1, none⟩ = some (.slice oa L0.length oc) := cell_of h.str.hT rfl
  rcases Nat.lt_or_ge L0.length 2 with hl | hl
  · have hc : Ckms.compress (Ckms.Fq k) n L0 = L0 := by
      match L0, hl with
      | [], _ => rfl
      | [a], _ => rfl
    have HM := Lib.hid h
    have hli : (L0.length : Int) < 2 := by omega
    rw [hc]
    clear h hL hLb hc
    go_enter Try.func84, Try.ntmps84
    go_wp2_with fail
    refine bodyPost_ret (results_none rfl _ _ _) rfl ?_
    exact ⟨rfl, _, HM.out, RowKit.Below.refl _ _⟩
  · obtain ⟨Pre0, x0, rfl⟩ : ∃ Pre x, L0 = Pre ++ [x] := by
      rcases List.eq_nil_or_concat L0 with h0 | ⟨P, x, h0⟩
      · rw [h0] at hl; simp at hl
      · exact ⟨P, x, by rw [h0]; simp⟩
    obtain ⟨pl, hpl⟩ : ∃ pl, pl = Pre0.length := ⟨_, rfl⟩
    obtain ⟨ln, hln⟩ : ∃ ln, ln = (Pre0 ++ [x0]).length := ⟨_, rfl⟩
    have hlp : ln = pl + 1 := by rw [hln, hpl]; simp
    obtain ⟨g, cap, cur, q1, q2, q3, q4, q5, q6, q7⟩ : ∃ g cap cur, Value.slice oa (Pre0 ++ [x0]).length oc = .slice (some ⟨g, 0, none⟩) ((Pre0 ++ [x0]).map smF).length cap ∧ top ≤ g ∧ w.heap[g]? = some (.cells cur 88) ∧ ((Pre0 ++ [x0]).map smF).length ≤ cap ∧ cap ≤ maxLen ∧ cur.size = cap * 3 ∧ BufIs cur ((Pre0 ++ [x0]).map smF) := by
      rcases own_open h.own with ⟨_, h0⟩ | h0
      · simp at h0
      · exact h0
    obtain ⟨rfl, _, rfl⟩ : oa = some ⟨g, 0, none⟩ ∧ True ∧ oc = cap := by injection q1 with a1 a2 a3; exact ⟨a1, trivial, a3⟩
    rw [← hln] at t1
    have hcc : ∀ (w' : World), w'.heap[g]? = some (.cells cur 88) → ∀ i, i < 3 → w'.cell? ⟨g, pl * 3 + i, none⟩ = some (encSmp (smF x0))[i]! := fun w' q3 i hi => by
      have hlt : pl < ((Pre0 ++ [x0]).map smF).length := by simp; omega
      refine cell_of q3 ?_
      rw [some_of_get! (by rw [q6]; simp at hlt q4; omega), q7.2 pl hlt i hi, getElem!_pos (List.map smF (Pre0 ++ [x0])) pl hlt]
      simp [hpl]
    have k0 : w.cell? ⟨g, pl * 3, none⟩ = some (.float .f64 (fN x0.v).b) := hcc w q3 0 (by omega)
    have k0a : ∀ o, (w.alloc o).cell? ⟨g, pl * 3, none⟩ = some (.float .f64 (fN x0.v).b) := fun o => hcc _ (at_alloc o q3) 0 (by omega)
    have k1 : w.cell? ⟨g, pl * 3 + 1, none⟩ = some (.float .f64 (floatOfInt .f64 (x0.g : Int))) := hcc w q3 1 (by omega)
    have k1a : ∀ o, (w.alloc o).cell? ⟨g, pl * 3 + 1, none⟩ = some (.float .f64 (floatOfInt .f64 (x0.g : Int))) := fun o => hcc _ (at_alloc o q3) 1 (by omega)
    have k2 : w.cell? ⟨g, pl * 3 + 2, none⟩ = some (.float .f64 (floatOfInt .f64 (x0.d : Int))) := hcc w q3 2 (by omega)
    have k2a : ∀ o, (w.alloc o).cell? ⟨g, pl * 3 + 2, none⟩ = some (.float .f64 (floatOfInt .f64 (x0.d : Int))) := fun o => hcc _ (at_alloc o q3) 2 (by omega)
    have hx0g : x0.g ≤ n := by rw [← hL, Ckms.tot_append]; simp [tot]
    have hP0 : tot Pre0 + x0.g = n := by rw [← hL, Ckms.tot_append]; simp [tot]
    obtain ⟨nf, hnf⟩ : ∃ nf, nf = floatOfInt .f64 (n : Int) := ⟨_, rfl⟩
    obtain ⟨na, hna⟩ : ∃ na, na = FX (16 * ((n : Int) - 1)) := ⟨_, rfl⟩
    obtain ⟨r0, hr0⟩ : ∃ r0, r0 = FX (16 * ((tot Pre0 : Int) - 1)) := ⟨_, rfl⟩
    have a1 := run_fsub (x := nf) (y := 4607182418800017408) (r := na) (by rw [hnf, hna, FI_FX n (by omega), one_FX, FX_sub (by omega) (by omega)]; congr 2; omega)
    have a2 := run_fsub (x := na) (y := floatOfInt .f64 (x0.g : Int)) (r := r0) (by rw [hna, hr0, FI_FX x0.g (by omega), FX_sub (by omega) (by omega)]; congr 2; omega)
    have hlen12 : ln ≤ 1200 := by
      have : ∀ L : List Sm, (∀ x ∈ L, 1 ≤ x.g) → L.length ≤ tot L := fun L => by
        induction L with
        | nil => intro _; simp
        | cons x L ih => intro h; have := h x (by simp); have := ih (fun y hy => h y (by simp [hy])); simp only [tot, List.length_cons]; omega
      have := this (Pre0 ++ [x0]) (fun x hx => (hLb x hx).1)
      omega
    have hw1 : IntKind.i64.wrap ((ln : Int) - 1) = (pl : Int) := by rw [IntKind.wrap_i64]; omega
    have hw2 : IntKind.i64.wrap ((ln : Int) - 2) = (pl : Int) - 1 := by rw [IntKind.wrap_i64]; omega
    have hx1 : (0 : Int) ≤ (pl : Int) := by omega
    have hx2 : (pl : Int) < (ln : Int) := by omega
    have hx3 : ¬ ((ln : Int) < 2) := by omega
    obtain ⟨O, hO⟩ : ∃ O : Obj, O = .cells #[.float .f64 (fN x0.v).b, .float .f64 (floatOfInt .f64 (x0.g : Int)), .float .f64 (floatOfInt .f64 (x0.d : Int))] 88 := ⟨_, rfl⟩
    have s1 : ∀ o, (w.alloc o).cell? ⟨T, 1, none⟩ = _ := fun o => cell_of (at_alloc o h.str.hT) rfl
    have s0 : ∀ o, (w.alloc o).cell? ⟨T, 0, none⟩ = some (.float .f64 nf) := fun o => by rw [hnf]; exact cell_of (at_alloc o h.str.hT) rfl
    rw [← hln] at s1
    have Hh := Lib.hid h
    have HL := Lib.hid hL
    have HLb := Lib.hid hLb
    have Hr0 := Lib.hid hr0
    have Hln := Lib.hid hln
    have Hpl := Lib.hid hpl
    have HP0 := Lib.hid hP0
    have Hlp := Lib.hid hlp
    have hgl := Lib.hid (lt_of_at q3)
    clear q1 q2 q3 q4 q5 q6 q7 hcc h hL hLb hnf hna hr0 hln hpl hP0 hlp hx0g hl
    subst hO
    go_enter Try.func84, Try.ntmps84
    go_wp2_with fail
    go_region
    go_wp2_with fail
    go_quiet (fail)
    go_wp2_with fail
    obtain ⟨X, hX⟩ : ∃ X, X = w.heap.size := ⟨_, rfl⟩
    have HC : Hid (∀ d, CMem w ((w.alloc (.cells #[.float .f64 (fN x0.v).b, .float .f64 (floatOfInt .f64 (x0.g : Int)), .float .f64 (floatOfInt .f64 (x0.d : Int))] 88)).drewN d) base top S T Q QA B k m n X so bc (.slice (some ⟨g, 0, none⟩) (Pre0 ++ x0 :: []).length oc) ((Pre0 ++ x0 :: []).map smF) x0) := Lib.hid fun d => by
      have h := Hh.out
      refine ⟨(h.alloc _).drewN d, below_drewN ((RowKit.Below.refl _ _).alloc (by have := h.bt; have := h.sz; omega) _) _, ?_, by rw [hX]; exact h.sz, fun q hq => by rw [hX]; exact (h.own.lt q hq).2⟩
      rw [hX]; exact hp_at w _ _ rfl
    have HI : Hid (CInv k n (Pre0 ++ [x0]) Pre0 x0 []) := Lib.hid ⟨by unfold Ckms.compress; simp, by have := HP0.out; simp only [tot]; omega, HLb.out, hn⟩
    rw [← hX]
    have HX := Lib.hid hX
    rw [Hpl.out, Hr0.out]
    clear hX t1 k0 k1 k2 k0a k1a k2a s0 s1 a1 a2 hw1 hw2 hx1 hx2 hx3
    go_loopw [3, 4, 5] (fun s3 s4 s5 wr => ∃ (Pre : List Sm) (x : Sm) (acc : List Sm), s3 = .int .i64 Pre.length ∧ s4 = .float .f64 (FX (16 * ((tot Pre : Int) - 1))) ∧ s5 = .int .i64 ((Pre.length : Int) - 1) ∧ Hid (CInv k n (Pre0 ++ [x0]) Pre x acc) ∧
        Hid (CMem w wr base top S T Q QA B k m n X so bc (.slice (some ⟨g, 0, none⟩) (Pre ++ x :: acc).length oc) ((Pre ++ x :: acc).map smF) x))
      (fun _ _ s5 _ => (intOf s5 + 1).toNat)
    case atStart => exact ⟨Pre0, x0, [], rfl, rfl, rfl, HI, Lib.hid (HC.out _)⟩
    case round =>
      obtain ⟨Pre, x, acc, rfl, rfl, rfl, hI, hM⟩ := hrel
      rcases List.eq_nil_or_concat Pre with hp | ⟨P, c, hp⟩
      · subst hp
        go_wp2_with fail
        go_end0
        have e : x :: acc = Ckms.compress (Ckms.Fq k) n (Pre0 ++ [x0]) := by
          rw [← hI.out.1]; rfl
        have h1 := hM.out.ms
        rw [List.nil_append, e] at h1
        exact ⟨rfl, _, h1, hM.out.bel⟩
      · rw [List.concat_eq_append] at hp
        subst hp
        have hms := hM.out.ms
        obtain ⟨LN, hLN⟩ : ∃ LN, LN = ((P ++ [c]) ++ x :: acc).length := ⟨_, rfl⟩
        obtain ⟨cur, q2, q3, q4, q5, q6, q7⟩ : ∃ cur, top ≤ g ∧ wr.heap[g]? = some (.cells cur 88) ∧ LN ≤ oc ∧ oc ≤ maxLen ∧ cur.size = oc * 3 ∧ BufIs cur (((P ++ [c]) ++ x :: acc).map smF) := by
          rcases own_open hms.own with ⟨h0, _⟩ | ⟨g', cap', cur, a1, a2, a3, a4, a5, a6, a7⟩
          · cases h0
          · obtain ⟨rfl, rfl⟩ : g = g' ∧ oc = cap' := by injection a1 with b1 b2 b3; injection b1 with b1; injection b1 with b1; exact ⟨b1, b3⟩
            rw [List.length_map, ← hLN] at a4
            exact ⟨cur, a2, a3, a4, a5, a6, a7⟩
        rw [← hLN] at hM
        have hcc : ∀ i, i < 3 → wr.cell? ⟨g, P.length * 3 + i, none⟩ = some (encSmp (smF c))[i]! := fun i hi => by
          have hlt : P.length < (((P ++ [c]) ++ x :: acc).map smF).length := by simp
          refine cell_of q3 ?_
          have : LN = (((P ++ [c]) ++ x :: acc).map smF).length := by rw [List.length_map]; exact hLN
          rw [some_of_get! (by omega), q7.2 P.length hlt i hi, getElem!_pos (((P ++ [c]) ++ x :: acc).map smF) P.length hlt]
          simp
        have k0 : wr.cell? ⟨g, P.length * 3, none⟩ = some (.float .f64 (fN c.v).b) := hcc 0 (by omega)
        have k1 : wr.cell? ⟨g, P.length * 3 + 1, none⟩ = some (.float .f64 (floatOfInt .f64 (c.g : Int))) := hcc 1 (by omega)
        have k2 : wr.cell? ⟨g, P.length * 3 + 2, none⟩ = some (.float .f64 (floatOfInt .f64 (c.d : Int))) := hcc 2 (by omega)
        have t1 : wr.cell? ⟨T, 1, none⟩ = some (.slice (some ⟨g, 0, none⟩) LN oc) := cell_of hM.out.ms.str.hT rfl
        have hPL : P.length + 2 ≤ LN := by rw [hLN]; simp
        obtain ⟨hcg1, hcd⟩ : 1 ≤ c.g ∧ c.d ≤ 1200 := hI.out.2.2.1 c (by simp)
        obtain ⟨hxg1, hxd⟩ : 1 ≤ x.g ∧ x.d ≤ 1200 := hI.out.2.2.1 x (by simp)
        have htot : tot (P ++ [c]) = tot P + c.g := by rw [Ckms.tot_append]; simp [tot]
        have hsum : tot P + c.g + x.g ≤ n := by have := hI.out.2.1; omega
        have hPl12 : P.length ≤ 1200 := by
          have := lenTot P (fun y hy => (hI.out.2.2.1 y (by simp [hy])).1)
          omega
        have hgb : x.g + c.g ≤ 1200 := by omega
        have HLN12 : Hid (LN ≤ 1200) := Lib.hid (by
          have h1 := lenTot ((P ++ [c]) ++ x :: acc) (fun y hy => (hI.out.2.2.1 y hy).1)
          rw [← hLN] at h1
          have h2 := hI.out.2.1
          have h3 : tot ((P ++ [c]) ++ x :: acc) = n := by rw [Ckms.tot_append]; simp only [tot]; omega
          omega)
        obtain ⟨R, hR⟩ : ∃ R, R = tot P + c.g - 1 := ⟨_, rfl⟩
        have hRn : R ≤ n := by omega
        obtain ⟨G, hG⟩ : ∃ G, G = gOf k R n := ⟨_, rfl⟩
        obtain ⟨rf, hrf⟩ : ∃ rf, rf = floatOfInt .f64 (R : Int) := ⟨_, rfl⟩
        have hrf2 : FX (16 * ((tot (P ++ [c]) : Int) - 1)) = rf := by rw [hrf, FI_FX R (by omega), htot]; congr 1; omega
        obtain ⟨rf', hrf'⟩ : ∃ rf', rf' = FX (16 * ((tot P : Int) - 1)) := ⟨_, rfl⟩
        have b1 := run_fsub (x := rf) (y := floatOfInt .f64 (c.g : Int)) (r := rf') (by rw [hrf, hrf', FI_FX R (by omega), FI_FX c.g (by omega), FX_sub (by omega) (by omega)]; congr 2; omega)
        obtain ⟨s1, hs1⟩ : ∃ s1, s1 = floatOfInt .f64 ((c.g + x.g : Nat) : Int) := ⟨_, rfl⟩
        obtain ⟨s2, hs2⟩ : ∃ s2, s2 = floatOfInt .f64 ((c.g + x.g + x.d : Nat) : Int) := ⟨_, rfl⟩
        have b2 := run_fadd (x := floatOfInt .f64 (c.g : Int)) (y := floatOfInt .f64 (x.g : Int)) (r := s1) (by rw [hs1]; exact fi_add c.g x.g (by omega) (by omega))
        have b3 := run_fadd (x := s1) (y := floatOfInt .f64 (x.d : Int)) (r := s2) (by rw [hs1, hs2]; exact fi_add (c.g + x.g) x.d (by omega) (by omega))
        have hle := gOf_leq k R n (c.g + x.g + x.d) hk1 hk2 hRn hn (by omega)
        rw [← hs2, ← hG] at hle
        obtain ⟨wc, hwc⟩ : ∃ wc : World, wc = wr.alloc (.cells #[.float .f64 (fN c.v).b, .float .f64 (floatOfInt .f64 (c.g : Int)), .float .f64 (floatOfInt .f64 (c.d : Int))] 88) := ⟨_, rfl⟩
        obtain ⟨C, hC⟩ : ∃ C, C = wr.heap.size := ⟨_, rfl⟩
        have hbz : base ≤ wr.heap.size := by have := hms.bt; have := hms.sz; omega
        have HMc : Hid (CMem w wc base top S T Q QA B k m n X so bc (.slice (some ⟨g, 0, none⟩) LN oc) (((P ++ [c]) ++ x :: acc).map smF) x ∧ wc.heap[C]? = some (.cells #[.float .f64 (fN c.v).b, .float .f64 (floatOfInt .f64 (c.g : Int)), .float .f64 (floatOfInt .f64 (c.d : Int))] 88) ∧ X < C ∧ g < C ∧ T < C) := Lib.hid (by
          rw [hwc, hC]
          have hX := lt_of_at hM.out.hx
          refine ⟨⟨hM.out.ms.alloc _, hM.out.bel.alloc hbz _, at_alloc _ hM.out.hx, hM.out.far⟩, hp_at _ _ _ rfl, hX, lt_of_at q3, lt_of_at hms.str.hT⟩)
        rw [hrf2, show (((P ++ [c]).length : Nat) : Int) - 1 = (P.length : Int) by simp]
        rw [show (((P ++ [c]).length : Nat) : Int) = (P.length : Int) + 1 by simp]
        have HLN := Lib.hid hLN
        have Hrf' := Lib.hid hrf'
        have HR := Lib.hid hR
        have Hq := Lib.hid (And.intro q2 (And.intro q4 q5))
        have hPi : (0 : Int) ≤ (P.length : Int) := by omega
        have hPi2 : (P.length : Int) < (LN : Int) := by omega
        clear hcc q2 q3 q4 q5 q6 q7 hLN hrf2 hrf' hms hR hs1 hs2 hM htot hsum
        go_upto_region 8 with fail
        rw [← hwc, ← hC]
        have hM2 := HMc.out.1
        have hC2 := HMc.out.2.1
        have u1 := cell_of hM2.ms.str.hT (i := 2) rfl
        have u2 : wc.cell? ⟨X, 1, none⟩ = _ := cell_of hM2.hx rfl
        have u3 : wc.cell? ⟨X, 2, none⟩ = _ := cell_of hM2.hx rfl
        have u4 : wc.cell? ⟨C, 1, none⟩ = _ := cell_of hC2 rfl
        have cu1 := fun d => cell_of (cloW_at (w := wc.drew) hM2.ms.str.hT (FX (k : Int)) 4581421828931458171 d) (i := 2) rfl
        have cu2 := fun d => cell_of (cloW_at (w := wc.drew) hM2.hx (FX (k : Int)) 4581421828931458171 d) (i := 1) rfl
        have cu3 := fun d => cell_of (cloW_at (w := wc.drew) hM2.hx (FX (k : Int)) 4581421828931458171 d) (i := 2) rfl
        have cu4 := fun d => cell_of (cloW_at (w := wc.drew) hC2 (FX (k : Int)) 4581421828931458171 d) (i := 1) rfl
        have hclo : Hid (Calls Try.prog 39 #[.pointer (some ⟨T, 0, none⟩), .float .f64 rf, .pointer (some ⟨Q, 0, none⟩)] wc.drew fun e w' => e = .returned (.float .f64 G) ∧ ∃ d, w' = cloW wc.drew (FX (k : Int)) 4581421828931458171 d) := Lib.hid (by
          rw [hrf, hG]; exact clo_calls k R n hk1 hk2 hRn hn (hM2.ms.str.drewN 1))
        clear hM2 hC2 hrf hG k0 k1 k2 t1 hwc hC
        go_region_held3 (fun w' => w'.cell? ⟨T, 2, none⟩ = some (.func (.func 39) #[] #[.pointer (some ⟨Q, 0, none⟩)]) ∧ w'.cell? ⟨X, 1, none⟩ = some (.float .f64 (floatOfInt .f64 (x.g : Int))) ∧ w'.cell? ⟨X, 2, none⟩ = some (.float .f64 (floatOfInt .f64 (x.d : Int))) ∧ w'.cell? ⟨C, 1, none⟩ = some (.float .f64 (floatOfInt .f64 (c.g : Int))))
          (first | exact ⟨u1, u2, u3, u4⟩ | exact ⟨cu1 _, cu2 _, cu3 _, cu4 _⟩)
          (first
            | (go_at_call 39; refine hclo.out.mono ?_; rintro e w' ⟨rfl, dd, rfl⟩))
        clear u1 u2 u3 u4 cu1 cu2 cu3 cu4 hclo
        obtain ⟨w4, hw4⟩ : ∃ w4 : World, w4 = cloW wc.drew (FX (k : Int)) 4581421828931458171 dd := ⟨_, rfl⟩
        have HM4 : Hid (CMem w w4 base top S T Q QA B k m n X so bc (.slice (some ⟨g, 0, none⟩) LN oc) (((P ++ [c]) ++ x :: acc).map smF) x) := Lib.hid (by rw [hw4]; exact HMc.out.1.clo _ _ _)
        have hC4 : w4.heap[C]? = some (.cells #[.float .f64 (fN c.v).b, .float .f64 (floatOfInt .f64 (c.g : Int)), .float .f64 (floatOfInt .f64 (c.d : Int))] 88) := by rw [hw4]; exact cloW_at (w := wc.drew) HMc.out.2.1 _ _ _
        rw [← hw4]
        clear hw4
        have hXC := HMc.out.2.2.1
        have v0 : w4.cell? ⟨C, 0, none⟩ = _ := cell_of hC4 rfl
        have v1 : w4.cell? ⟨C, 1, none⟩ = _ := cell_of hC4 rfl
        have v2 : w4.cell? ⟨C, 2, none⟩ = _ := cell_of hC4 rfl
        have y0 : w4.cell? ⟨X, 0, none⟩ = _ := cell_of HM4.out.hx rfl
        have y1 : w4.cell? ⟨X, 1, none⟩ = _ := cell_of HM4.out.hx rfl
        have y2 : w4.cell? ⟨X, 2, none⟩ = _ := cell_of HM4.out.hx rfl
        have z0 : w4.frozen? ⟨X, 0, none⟩ = false := free_of HM4.out.hx
        have z1 : w4.frozen? ⟨X, 1, none⟩ = false := free_of HM4.out.hx
        have z2 : w4.frozen? ⟨X, 2, none⟩ = false := free_of HM4.out.hx
        have hwm : IntKind.i64.wrap ((P.length : Int) - 1) = (P.length : Int) - 1 := by rw [IntKind.wrap_i64]; omega
        have hCXn : ¬ C = X := by omega
        by_cases hlt : c.g + x.g + x.d ≤ Ckms.Fq k R n
        · rw [decide_eq_true hlt] at hle
          obtain ⟨sx, hsx⟩ : ∃ sx, sx = floatOfInt .f64 ((x.g + c.g : Nat) : Int) := ⟨_, rfl⟩
          have b4 := run_fadd (x := floatOfInt .f64 (x.g : Int)) (y := floatOfInt .f64 (c.g : Int)) (r := sx) (by rw [hsx]; exact fi_add x.g c.g (by omega) (by omega))
          obtain ⟨wA, hwA⟩ : ∃ wA : World, wA = w4.setCell ⟨X, 1, none⟩ (.float .f64 sx) := ⟨_, rfl⟩
          have hMA : CMem w wA base top S T Q QA B k m n X so bc (.slice (some ⟨g, 0, none⟩) LN oc) (((P ++ [c]) ++ x :: acc).map smF) ⟨x.v, x.g + c.g, x.d⟩ := by
            have e1 := HM4.out.ms_set 1 (.float .f64 sx)
            rw [hwA]
            refine ⟨e1.1, e1.2, ?_, HM4.out.far⟩
            rw [hsx]
            exact at_set HM4.out.hx 1 _
          have tA : wA.cell? ⟨T, 1, none⟩ = some (.slice (some ⟨g, 0, none⟩) LN oc) := cell_of hMA.ms.str.hT rfl
          have xA0 : wA.cell? ⟨X, 0, none⟩ = some (.float .f64 (fN x.v).b) := cell_of hMA.hx rfl
          have xA1 : wA.cell? ⟨X, 1, none⟩ = some (.float .f64 sx) := by rw [hsx]; exact cell_of hMA.hx rfl
          have xA2 : wA.cell? ⟨X, 2, none⟩ = some (.float .f64 (floatOfInt .f64 (x.d : Int))) := cell_of hMA.hx rfl
          have HMA := Lib.hid hMA
          have HsX := Lib.hid hsx
          have HwA := Lib.hid hwA
          obtain ⟨cuA, r1, r2⟩ : ∃ cu, wA.heap[g]? = some (.cells cu 88) ∧ cu.size = oc * 3 := by
            rcases own_open hMA.ms.own with ⟨h0, _⟩ | ⟨g', cap', cur, a1, a2, a3, a4, a5, a6, a7⟩
            · cases h0
            · obtain ⟨rfl, rfl⟩ : g = g' ∧ oc = cap' := by injection a1 with b1 b2 b3; injection b1 with b1; injection b1 with b1; exact ⟨b1, b3⟩
              exact ⟨cur, a3, a6⟩
          have hLNoc : LN ≤ oc := Hq.out.2.1
          obtain ⟨g0, hg0⟩ : ∃ v, wA.cell? ⟨g, (P.length + 1) * 3, none⟩ = some v := ⟨_, cell_of r1 (some_of_get! (by omega))⟩
          obtain ⟨g1, hg1⟩ : ∃ v, wA.cell? ⟨g, (P.length + 1) * 3 + 1, none⟩ = some v := ⟨_, cell_of r1 (some_of_get! (by omega))⟩
          obtain ⟨g2, hg2⟩ : ∃ v, wA.cell? ⟨g, (P.length + 1) * 3 + 2, none⟩ = some v := ⟨_, cell_of r1 (some_of_get! (by omega))⟩
          have gz0 : wA.frozen? ⟨g, (P.length + 1) * 3, none⟩ = false := free_of r1
          have gz1 : wA.frozen? ⟨g, (P.length + 1) * 3 + 1, none⟩ = false := free_of r1
          have gz2 : wA.frozen? ⟨g, (P.length + 1) * 3 + 2, none⟩ = false := free_of r1
          have hp1 : (0 : Int) ≤ (P.length : Int) + 1 := by omega
          have hp2 : (P.length : Int) + 1 < (LN : Int) := by omega
          have hp3 : ((P.length : Int) + 1).toNat = P.length + 1 := by omega
          clear hMA hsx hwA r1 r2
          go_wp2_with fail
          rw [← HwA.out]
          go_still_tail 7, (by kernel_rfl)
          change wpList _ _ _ _ _ wA.drew
          go_wp2_with fail
          obtain ⟨x', hx'⟩ : ∃ x' : SmpF, x' = smF ⟨x.v, x.g + c.g, x.d⟩ := ⟨_, rfl⟩
          have hex : encSmp x' = [.float .f64 (fN x.v).b, .float .f64 sx, .float .f64 (floatOfInt .f64 (x.d : Int))] := by rw [hx', HsX.out]; rfl
          obtain ⟨wB, hwB⟩ : ∃ wB : World, wB = (((wA.setCell ⟨g, (P.length + 1) * 3, none⟩ (.float .f64 (fN x.v).b)).setCell ⟨g, (P.length + 1) * 3 + 1, none⟩ (.float .f64 sx)).setCell ⟨g, (P.length + 1) * 3 + 2, none⟩ (.float .f64 (floatOfInt .f64 (x.d : Int)))).drew := ⟨_, rfl⟩
          rw [← hwB]
          have hwB2 : wB = (wA.setCells g ((P.length + 1) * 3) (encSmp x')).drew := by rw [hwB, hex]; rfl
          have hms := HMA.out.ms
          have hgT : ¬ g = T := by have := hms.lt.2.1; have := Hq.out.1; omega
          have tB : wB.cell? ⟨T, 1, none⟩ = some (.slice (some ⟨g, 0, none⟩) LN oc) := by rw [hwB2]; exact cell_of (w := (wA.setCells g ((P.length + 1) * 3) (encSmp x')).drew) (at_sets_other hgT hms.str.hT ((P.length + 1) * 3) (encSmp x')) rfl
          have hLl : ((P ++ [c]) ++ x :: acc).map smF = P.map smF ++ smF c :: smF x :: acc.map smF := by simp
          obtain ⟨cur2, r1, r2, r3⟩ : ∃ cu, wA.heap[g]? = some (.cells cu 88) ∧ cu.size = oc * 3 ∧ BufIs cu (P.map smF ++ smF c :: smF x :: acc.map smF) := by
            rcases own_open hms.own with ⟨h0, _⟩ | ⟨g', cap', cur, a1, a2, a3, a4, a5, a6, a7⟩
            · cases h0
            · obtain ⟨rfl, rfl⟩ : g = g' ∧ oc = cap' := by injection a1 with b1 b2 b3; injection b1 with b1; injection b1 with b1; exact ⟨b1, b3⟩
              exact ⟨cur, a3, a6, by rw [← hLl]; exact a7⟩
          have rB : wB.drew.heap[g]? = some (.cells (setMany cur2 ((P.length + 1) * 3) (encSmp x')) 88) := by
            show wB.heap[g]? = _
            rw [hwB2]
            exact at_sets r1 ((P.length + 1) * 3) (encSmp x')
          have hLNe : LN = P.length + 2 + acc.length := by rw [HLN.out]; simp; omega
          obtain ⟨cs, hcs⟩ : ∃ cs, cs = flatS (x' :: acc.map smF) := ⟨_, rfl⟩
          have hcl : cs.length = (acc.length + 1) * 3 := by rw [hcs, flatS_len]; simp
          have hn1 : Hid (cs.length = Nat.min (LN - (P.length + 1)) (LN - P.length) * 3) := Lib.hid (by rw [hcl, show Nat.min (LN - (P.length + 1)) (LN - P.length) = LN - (P.length + 1) from Nat.min_eq_left (by omega)]; congr 1; omega)
          have hn2 : Hid (∀ i v, cs[i]? = some v → wB.drew.cell? ((⟨g, (P.length + 1) * 3, none⟩ : Addr).add i) = some v) := Lib.hid fun i v hv => by
            rw [Addr.add_lit]
            rw [hcs] at hv
            have := removed_src r3 x' i v hv
            rw [List.length_map] at this
            exact cell_of rB this
          have hn3 : Hid (∀ i, i < cs.length → (wB.drew.cell? ⟨g, P.length * 3 + i, none⟩).isSome = true) := Lib.hid fun i hi => by
            rw [cell_of rB (some_of_get! (by rw [size_setMany]; omega))]; rfl
          have hn4 : Hid (∀ i, i < cs.length → wB.drew.frozen? ⟨g, P.length * 3 + i, none⟩ = false) := Lib.hid fun i _ => free_of rB
          have hn5 : Hid (∀ v ∈ cs, v.oneCell' = true) := Lib.hid (by rw [hcs]; exact flatS_one_cell _)
          have hsz3 : Hid ((Try.prog.info? 88).map (·.size) = some 3) := Lib.hid (by kernel_rfl)
          have Hcs := Lib.hid hcs
          have HwB2 := Lib.hid hwB2
          have Hx' := Lib.hid hx'
          have HgT := Lib.hid hgT
          have Hms := Lib.hid hms
          have HLNe := Lib.hid hLNe
          have hq1 : ¬ oc = P.length := by omega
          have hq2 : ¬ oc = P.length + 1 := by omega
          have hq3 : IntKind.i64.wrap ((P.length : Int) + 1) = (P.length : Int) + 1 := by rw [IntKind.wrap_i64]; omega
          have hq4 : (P.length : Int) ≤ (LN : Int) := by omega
          have hq5 : (P.length : Int) + 1 ≤ (LN : Int) := by omega
          clear hwB hwB2 hcs hx' hex hms hLl r1 r2 r3 rB hLNe hcl tA xA0 xA1 xA2 hg0 hg1 hg2 gz0 gz1 gz2 hgT
          go_still_tail 13, (by kernel_rfl)
          change wpList _ _ _ _ _ wB.drew
          refine wpList_copy_k rfl (.tmp 90) (.tmp 97) 80 80 rfl 88 3 Try.underlying80 hsz3.out g (P.length * 3) (LN - P.length) (oc - P.length) ⟨g, (P.length + 1) * 3, none⟩ (LN - (P.length + 1)) (oc - (P.length + 1)) (by simp [Act.eval]) (by simp [Act.eval]) cs hn1.out hn2.out hn3.out hn4.out hn5.out ?_
          obtain ⟨wC, hwC⟩ : ∃ wC : World, wC = wB.drew.setCells g (P.length * 3) cs := ⟨_, rfl⟩
          rw [← hwC]
          have HwC := Lib.hid hwC
          have htC : ∀ b o, ¬ g = b → wA.heap[b]? = some o → wC.heap[b]? = some o := fun b o h1 h2 => by
            rw [hwC, HwB2.out]
            exact at_sets_other h1 (w := (wA.setCells g ((P.length + 1) * 3) (encSmp x')).drew.drew) (at_sets_other h1 h2 ((P.length + 1) * 3) (encSmp x')) _ _
          have tC : wC.cell? ⟨T, 1, none⟩ = some (.slice (some ⟨g, 0, none⟩) LN oc) := cell_of (htC T _ HgT.out Hms.out.str.hT) rfl
          have fC : wC.frozen? ⟨T, 1, none⟩ = false := free_of (htC T _ HgT.out Hms.out.str.hT)
          have hCA : wA.heap[C]? = some (.cells #[.float .f64 (fN c.v).b, .float .f64 (floatOfInt .f64 (c.g : Int)), .float .f64 (floatOfInt .f64 (c.d : Int))] 88) := by rw [HwA.out]; exact at_set_other _ (Ne.symm hCXn) hC4
          have vD : ∀ u, (wC.setCell ⟨T, 1, none⟩ u).cell? ⟨C, 1, none⟩ = some (.float .f64 (floatOfInt .f64 (c.g : Int))) := fun u => cell_of (at_set_other u (by have := HMc.out.2.2.2.2; show T ≠ C; omega) (htC C _ (by have := HMc.out.2.2.2.1; omega) hCA)) rfl
          obtain ⟨L1, hL1⟩ : ∃ L1, L1 = LN - 1 := ⟨_, rfl⟩
          have hq6 : IntKind.i64.wrap ((LN : Int) - 1) = (L1 : Int) := by rw [IntKind.wrap_i64]; have := HLNe.out; have := Hq.out.2.1; have h5 := Hms.out.own; have : LN ≤ 1200 := HLN12.out; omega
          have hq7 : (0 : Int) ≤ (L1 : Int) := by omega
          have hq8 : (L1 : Int) ≤ (oc : Int) := by omega
          have HL1 := Lib.hid hL1
          have HtC := Lib.hid htC
          clear hwC htC hL1 hCA
          go_wp2_with fail
          go_still_tail 12, (by kernel_rfl)
          change wpList _ _ _ _ _ wC.drew
          go_wp2_with fail
          have HIj : Hid (CInv k n (Pre0 ++ [x0]) P ⟨x.v, x.g + c.g, x.d⟩ acc) := Lib.hid (CInv.join hI.out (by rw [← HR.out]; exact hlt))
          go_roundw
          case rel =>
            refine ⟨P, ⟨x.v, x.g + c.g, x.d⟩, acc, by go_num, by rw [Hrf'.out], rfl, HIj, Lib.hid ?_⟩
            have h0 := HMA.out
            have hlv : LN = (P.map smF ++ smF c :: smF x :: acc.map smF).length := by rw [HLN.out]; simp
            have hll : ((P ++ [c]) ++ x :: acc).map smF = P.map smF ++ smF c :: smF x :: acc.map smF := by simp
            rw [hlv, hll] at h0
            have hr := h0.ms.remove x'
            have hr := h0.remove x'
            rw [remW_eq] at hr
            have hL2 : (P.map smF ++ x' :: acc.map smF) = (P ++ (⟨x.v, x.g + c.g, x.d⟩ : Sm) :: acc).map smF := by rw [Hx'.out]; simp
            have hL3 : (P.map smF ++ x' :: acc.map smF).length = (P ++ (⟨x.v, x.g + c.g, x.d⟩ : Sm) :: acc).length := by simp
            have hL4 : (P ++ (⟨x.v, x.g + c.g, x.d⟩ : Sm) :: acc).length = L1 := by have := HL1.out; have := HLNe.out; simp; omega
            rw [List.length_map, ← Hcs.out, ← HwB2.out, ← HwC.out, hL3, hL2, hL4] at hr
            rw [hL4]
            exact hr
          case measure => simp [intOf]
        · rw [decide_eq_false hlt] at hle
          obtain ⟨w5, hw5⟩ : ∃ w5 : World, w5 = ((w4.setCell ⟨X, 0, none⟩ (.float .f64 (fN c.v).b)).setCell ⟨X, 1, none⟩ (.float .f64 (floatOfInt .f64 (c.g : Int)))).setCell ⟨X, 2, none⟩ (.float .f64 (floatOfInt .f64 (c.d : Int))) := ⟨_, rfl⟩
          have HM5 : Hid (CMem w w5 base top S T Q QA B k m n X so bc (.slice (some ⟨g, 0, none⟩) (P ++ c :: x :: acc).length oc) ((P ++ c :: x :: acc).map smF) c) := by
            have h0 := HM4.out
            have hlv : LN = (P ++ c :: x :: acc).length := by rw [HLN.out]; simp
            have hll : ((P ++ [c]) ++ x :: acc) = P ++ c :: x :: acc := by simp
            rw [hlv, hll] at h0
            have e1 := h0.ms_set 0 (.float .f64 (fN c.v).b)
            have f1 : CMem w (w4.setCell ⟨X, 0, none⟩ (.float .f64 (fN c.v).b)) base top S T Q QA B k m n X so bc (.slice (some ⟨g, 0, none⟩) (P ++ c :: x :: acc).length oc) ((P ++ c :: x :: acc).map smF) ⟨c.v, x.g, x.d⟩ := ⟨e1.1, e1.2, at_set h0.hx 0 _, h0.far⟩
            have e2 := f1.ms_set 1 (.float .f64 (floatOfInt .f64 (c.g : Int)))
            have f2 : CMem w ((w4.setCell ⟨X, 0, none⟩ (.float .f64 (fN c.v).b)).setCell ⟨X, 1, none⟩ (.float .f64 (floatOfInt .f64 (c.g : Int)))) base top S T Q QA B k m n X so bc (.slice (some ⟨g, 0, none⟩) (P ++ c :: x :: acc).length oc) ((P ++ c :: x :: acc).map smF) ⟨c.v, c.g, x.d⟩ := ⟨e2.1, e2.2, at_set f1.hx 1 _, f1.far⟩
            have e3 := f2.ms_set 2 (.float .f64 (floatOfInt .f64 (c.d : Int)))
            rw [hw5]
            exact Lib.hid ⟨e3.1, e3.2, at_set f2.hx 2 _, f2.far⟩
          have HI5 : Hid (CInv k n (Pre0 ++ [x0]) P c (x :: acc)) := Lib.hid (CInv.step hI.out (by rw [← HR.out]; exact hlt))
          have v1a : w5.cell? ⟨C, 1, none⟩ = some (.float .f64 (floatOfInt .f64 (c.g : Int))) := by rw [hw5]; exact cell_of (at_set_other _ (Ne.symm hCXn) (at_set_other _ (Ne.symm hCXn) (at_set_other _ (Ne.symm hCXn) hC4))) rfl
          have HW5 := Lib.hid hw5
          clear hw5 hC4
          go_wp2_with fail
          go_roundw
          case rel => exact ⟨P, c, x :: acc, rfl, by rw [Hrf'.out], rfl, HI5, by rw [← HW5.out]; exact HM5⟩
          case measure => simp [intOf]
end Go.Proofs.Ythcgojhfbcgaiaa
