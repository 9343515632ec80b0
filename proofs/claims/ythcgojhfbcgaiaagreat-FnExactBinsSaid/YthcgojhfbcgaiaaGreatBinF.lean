/- The reservoir's insert: a value joins the first bin whose mean it does not pass, or is a bin of its own behind all. Conditions: the histogram lies in memory. -/
import Derived.Test.YthcgojhfbcgaiaaGreatBinE
namespace Go.Proofs.YthcgojhfbcgaiaaGreat
open Go.RowKit Go.Sort Go.Proofs

section
variable {w : World} {base H R most n : Nat} {v : Value} {A Z : List PBin} {x : PBin}
theorem nod_parts {α β : Type} {f : α → β} {A Z : List α} {x : α} (h : ((A ++ x :: Z).map f).Nodup) : (∀ a ∈ A, f a ≠ f x) ∧ (∀ z ∈ Z, f z ≠ f x) := by
  rw [List.map_append, List.map_cons, List.nodup_append, List.nodup_cons] at h
  obtain ⟨_, ⟨h2, _⟩, h3⟩ := h
  exact ⟨fun a ha => h3 _ (List.mem_map_of_mem ha) _ (by simp), fun z hz e => h2 (e ▸ List.mem_map_of_mem hz)⟩
/-- One bin's count and sum set. -/
theorem Res.setBin (h : Res w base H R most n v (A ++ x :: Z)) (c s : Nat) : Res ((w.setCell ⟨x.1, 0, none⟩ (.int .i64 (c : Int))).setCell ⟨x.1, 1, none⟩ (.float .f64 (floatOfInt .f64 (s : Int)))) base H R most n v (A ++ (x.1, ⟨c, s⟩) :: Z) := by
  have hx : BinAt w x.1 x.2.c x.2.s := h.bins x (by simp)
  have n1 : x.1 ≠ H := ne_of_types hx h.hH tB_H
  have n2 : x.1 ≠ R := ne_of_types hx h.hR tB_R
  have n3 : some x.1 ≠ v.ownBlock := h.farP hx tB_P
  have hp : ptrs (A ++ (x.1, (⟨c, s⟩ : Bn.B)) :: Z) = ptrs (A ++ x :: Z) := by simp [ptrs]
  have hl : (A ++ (x.1, (⟨c, s⟩ : Bn.B)) :: Z).length = (A ++ x :: Z).length := by simp
  obtain ⟨e1, e2⟩ := nod_parts h.nod
  refine ⟨at_set_other (a := ⟨x.1, 1, none⟩) _ n1 (at_set_other (a := ⟨x.1, 0, none⟩) _ n1 h.hH), at_set_other (a := ⟨x.1, 1, none⟩) _ n2 (at_set_other (a := ⟨x.1, 0, none⟩) _ n2 h.hR), ?_, fun z hz => ?_, ?_, ⟨h.lt.1, h.lt.2.1, fun z hz => ?_⟩, by have := h.sz; simp [World.setCell]; omega⟩
  · rw [hp, hl]
    exact own_set_farB (own_set_farB h.own (a := ⟨x.1, 0, none⟩) n3 _) (a := ⟨x.1, 1, none⟩) n3 _
  · rcases List.mem_append.1 hz with hz' | hz'
    · exact at_set_other (a := ⟨x.1, 1, none⟩) _ (fun e => e1 z hz' e.symm) (at_set_other (a := ⟨x.1, 0, none⟩) _ (fun e => e1 z hz' e.symm) (h.bins z (by simp [hz'])))
    · rcases List.mem_cons.1 hz' with rfl | hz'
      · have := at_set (at_set hx 0 (.int .i64 (c : Int))) 1 (.float .f64 (floatOfInt .f64 (s : Int)))
        exact this
      · exact at_set_other (a := ⟨x.1, 1, none⟩) _ (fun e => e2 z hz' e.symm) (at_set_other (a := ⟨x.1, 0, none⟩) _ (fun e => e2 z hz' e.symm) (h.bins z (by simp [hz'])))
  · have := h.nod
    simp only [List.map_append, List.map_cons] at this ⊢; exact this
  · rcases List.mem_append.1 hz with hz' | hz'
    · exact h.lt.2.2 z (by simp [hz'])
    · rcases List.mem_cons.1 hz' with rfl | hz'
      · exact h.lt.2.2 x (by simp)
      · exact h.lt.2.2 z (by simp [hz'])
end

/-- Where a value goes: the first bin that it does not pass. -/
theorem place_of (f : Nat) : ∀ PL : List PBin, (∀ x ∈ PL, ¬ f * x.2.c ≤ x.2.s) ∨ ∃ A x Z, PL = A ++ x :: Z ∧ (∀ a ∈ A, ¬ f * a.2.c ≤ a.2.s) ∧ f * x.2.c ≤ x.2.s
  | [] => .inl (by simp)
  | y :: PL => by
    by_cases h : f * y.2.c ≤ y.2.s
    · exact .inr ⟨[], y, PL, rfl, by simp, h⟩
    · rcases place_of f PL with h1 | ⟨A, x, Z, rfl, h2, h3⟩
      · refine .inl fun x hx => ?_
        rcases List.mem_cons.1 hx with rfl | hx
        · exact h
        · exact h1 x hx
      · refine .inr ⟨y :: A, x, Z, rfl, fun a ha => ?_, h3⟩
        rcases List.mem_cons.1 ha with rfl | ha
        · exact h
        · exact h2 a ha

/-- The search's test at a place. -/
def testAt (PL : List PBin) (f i : Nat) : Bool := ((PL[i]?).map fun x => decide (f * x.2.c ≤ x.2.s)).getD false

/-- What all bins keep to: small numbers. -/
def Small (PL : List PBin) : Prop := ∀ x ∈ PL, 1 ≤ x.2.c ∧ x.2.c < 2 ^ 8 ∧ x.2.s < 2 ^ 20

theorem search_bins {w : World} {base H R most n b f RB BB k : Nat} {v : Value} {PL : List PBin} (h : Res w base H R most n v PL) (hs : Small PL) (hl : PL.length ≤ 999) (hb : BinAt w b 1 f) (hf : f < 2 ^ 10)
    (h1 : w.cell? ⟨RB, 0, none⟩ = some (.pointer (some ⟨R, 0, none⟩))) (h2 : w.cell? ⟨BB, 0, none⟩ = some (.pointer (some ⟨b, 0, none⟩))) (hk : k ≤ PL.length)
    (hlo : ∀ i, i < k → testAt PL f i = false) (hhi : ∀ i, k ≤ i → i < PL.length → testAt PL f i = true) :
    Calls Tryz.prog 40 #[.int .i64 PL.length, .func (.func 41) #[] #[.pointer (some ⟨RB, 0, none⟩), .pointer (some ⟨BB, 0, none⟩)]] w fun e w' => e = .returned (.int .i64 k) ∧ ∃ d, w' = w.drewN d := by
  refine search_calls (testAt PL f) (by omega) hk hlo hhi (Lib.hid fun i j hi => ?_)
  obtain ⟨oa, oc, rfl⟩ := h.slice
  rcases h.row with ⟨_, h0⟩ | ⟨g, cap, cur, q1, _⟩
  · subst h0; simp at hi
  obtain ⟨rfl, _, rfl⟩ : oa = some ⟨g, 0, none⟩ ∧ True ∧ oc = cap := by injection q1 with a1 a2 a3; exact ⟨a1, trivial, a3⟩
  have hm : PL[i] ∈ PL := List.getElem_mem hi
  obtain ⟨s1, s2, s3⟩ := hs _ hm
  exact testB_calls (w := w.drewN j) (R := R) h1 h2 (cell_of (w := w.drewN j) h.hR rfl) (show w.cell? _ = _ from h.cell i hi) hi (by omega) (h.bins _ hm) hb s1 s2 s3 hf (by simp [testAt, List.getElem?_eq_getElem hi])

set_option maxRecDepth 100000 in
set_option maxHeartbeats 1000000 in
theorem insertB_calls {w w0 : World} {base H R most n b f : Nat} {v : Value} {PL : List PBin} (N t : Nat) (h : Res w base H R most n v PL) (hB : RowKit.Below base w0 w) (hb : BinAt w b 1 f) (hbb : base ≤ b) (hbn : b ∉ PL.map (·.1)) (hn : n ≤ 999) (hN : N ≤ 250) (ht : t + f < 2 ^ 20)
    (hI : Bn.Inv (PL.map (·.2)) N t) (hf : f < 2 ^ 10) :
    Calls Tryz.prog 23 #[.pointer (some ⟨R, 0, none⟩), .pointer (some ⟨b, 0, none⟩)] w fun e w' => e = .returned (.tuple #[]) ∧
      ∃ v' PL', Res w' base H R most (n + 1) v' PL' ∧ RowKit.Below base w0 w' ∧ Bn.Inv (PL'.map (·.2)) (N + 1) (t + f) ∧ PL'.length ≤ PL.length + 1 ∧ PL'.map (·.2) = Bn.ins f (PL.map (·.2)) := by
  have hlen : PL.length ≤ N := by have := hI.len_le; rwa [List.length_map] at this
  have hsm : Small PL := fun x hx => by
    have hm : x.2 ∈ PL.map (·.2) := List.mem_map_of_mem hx
    have a1 := hI.pos _ hm
    have a2 := hI.c_le hm
    have a3 := hI.s_le hm
    exact ⟨a1, by omega, by omega⟩
  obtain ⟨oa, oc, rfl⟩ := h.slice
  obtain ⟨ln, hln⟩ : ∃ ln, ln = PL.length := ⟨_, rfl⟩
  obtain ⟨O1, hO1⟩ : ∃ O : Obj, O = .cells #[.pointer (some ⟨R, 0, none⟩)] 52 := ⟨_, rfl⟩
  obtain ⟨O2, hO2⟩ : ∃ O : Obj, O = .cells #[.pointer (some ⟨b, 0, none⟩)] 42 := ⟨_, rfl⟩
  obtain ⟨RB, hRB⟩ : ∃ RB, RB = w.heap.size := ⟨_, rfl⟩
  obtain ⟨BB, hBB⟩ : ∃ BB, BB = RB + 1 := ⟨_, rfl⟩
  obtain ⟨wB, hwB⟩ : ∃ wB : World, wB = (w.alloc O1).alloc O2 := ⟨_, rfl⟩
  have hRw := lt_of_at h.hR
  have hbw := lt_of_at hb
  have rB : Res wB base H R most n (.slice oa PL.length oc) PL := by rw [hwB]; exact (h.alloc O1).alloc O2
  have bB : BinAt wB b 1 f := by rw [hwB]; exact at_alloc _ (at_alloc _ hb)
  have o1 : wB.heap[RB]? = some O1 := by rw [hwB, hRB]; exact at_alloc _ (hp_at w _ _ rfl)
  have o2 : wB.heap[BB]? = some O2 := by rw [hwB, hBB, hRB]; exact hp_at (w.alloc O1) _ _ (by simp)
  have lB : RowKit.Below base w0 wB := by rw [hwB]; exact (hB.alloc h.sz O1).alloc (by simp; have := h.sz; omega) O2
  obtain ⟨wC, hwC⟩ : ∃ wC : World, wC = (wB.setCell ⟨R, 0, none⟩ (.int .i64 ((n : Int) + 1))).drew := ⟨_, rfl⟩
  have rC : Res wC base H R most (n + 1) (.slice oa PL.length oc) PL := by rw [hwC]; exact (rB.setN (n + 1)).drewN 1
  have bC : BinAt wC b 1 f := by rw [hwC]; exact at_set_other (a := ⟨R, 0, none⟩) _ (ne_of_types bB rB.hR tB_R).symm bB
  have p1 : wC.heap[RB]? = some O1 := by rw [hwC]; exact at_set_other (a := ⟨R, 0, none⟩) _ (by show R ≠ RB; omega) o1
  have p2 : wC.heap[BB]? = some O2 := by rw [hwC]; exact at_set_other (a := ⟨R, 0, none⟩) _ (by show R ≠ BB; omega) o2
  have lC : RowKit.Below base w0 wC := by rw [hwC]; exact (lB.setCell (p := ⟨R, 0, none⟩) h.lt.2.1 _).drew
  rw [hO1] at o1 p1
  rw [hO2] at o2 p2
  -- what the walk reads
  have c1 : wB.cell? ⟨RB, 0, none⟩ = some (.pointer (some ⟨R, 0, none⟩)) := cell_of o1 rfl
  have c2 : wB.cell? ⟨BB, 0, none⟩ = some (.pointer (some ⟨b, 0, none⟩)) := cell_of o2 rfl
  have c3 : wB.cell? ⟨R, 0, none⟩ = some (.int .i64 n) := cell_of rB.hR rfl
  have c4 : wB.frozen? ⟨R, 0, none⟩ = false := free_of rB.hR
  have c5 : wB.cell? ⟨b, 0, none⟩ = some (.int .i64 1) := cell_of bB rfl
  have d1 : wC.cell? ⟨RB, 0, none⟩ = some (.pointer (some ⟨R, 0, none⟩)) := cell_of p1 rfl
  have d2 : wC.cell? ⟨BB, 0, none⟩ = some (.pointer (some ⟨b, 0, none⟩)) := cell_of p2 rfl
  have d3 : wC.cell? ⟨R, 2, none⟩ = some (.slice oa ln oc) := by rw [hln]; exact cell_of rC.hR rfl
  have hni : (n : Int) ≤ 999 := by omega
  have hli : (ln : Int) ≤ 999 := by omega
  have hlen9 : PL.length ≤ 999 := by omega
  subst hO1 hO2
  rcases place_of f PL with hno | ⟨A, x, Z, rfl, hA, hx⟩
  · have hse := Lib.hid (search_bins (k := PL.length) rC hsm hlen9 bC hf d1 d2 (Nat.le_refl _) (fun i hi => by simp only [testAt, List.getElem?_eq_getElem hi, Option.map_some, Option.getD_some]; exact decide_eq_false (hno _ (List.getElem_mem hi))) (fun i h1 h2 => by omega))
    rw [← hln] at hse
    have hpu : Hid (∀ d, Calls Tryz.prog 44 #[.iface 80 (.pointer (some ⟨R, 2, none⟩)), .iface 42 (.pointer (some ⟨b, 0, none⟩))] (wC.drewN d).drew fun e w' => e = .returned (.tuple #[]) ∧ Hid (∃ v', Res w' base H R most (n + 1) v' (PL ++ [(b, ⟨1, f⟩)]) ∧ RowKit.Below base w0 w')) :=
      Lib.hid fun d => (heapPush_calls (w := (wC.drewN d).drew) ((rC.drewN d).drewN 1) (below_drewN lC d).drew bC hbb hbn hlen9 (fun x hx => by
        rcases List.mem_append.1 hx with hx | hx
        · exact hsm x hx
        · simp at hx; subst hx; exact ⟨Nat.le_refl 1, by show 1 < 2 ^ 8; omega, by show f < 2 ^ 20; omega⟩) (fun x hx => mb_mono (hsm x hx).1 (hsm x hx).2.1 (hsm x hx).2.2 (Nat.le_refl 1) (by omega) (by omega) (by have := hno x hx; omega))).mono fun e w' ⟨h1, v', h2, h3⟩ => ⟨h1, v', h2, h3⟩
    have hfin : Bn.Inv ((PL ++ [(b, (⟨1, f⟩ : Bn.B))]).map (·.2)) (N + 1) (t + f) := by
      rw [List.map_append]
      exact hI.push fun y hy => by obtain ⟨x, hx, rfl⟩ := List.mem_map.1 hy; exact hno x hx
    have hins : Hid ((PL ++ [(b, (⟨1, f⟩ : Bn.B))]).map (·.2) = Bn.ins f (PL.map (·.2))) := Lib.hid (by
      rw [List.map_append, Bn.ins_end]
      · rfl
      · intro y hy; obtain ⟨x, hx, rfl⟩ := List.mem_map.1 hy; exact hno x hx)
    have Hfin := Lib.hid hfin
    have Hln := Lib.hid hln
    have HwB := Lib.hid hwB
    have HwC := Lib.hid hwC
    have HRB := Lib.hid hRB
    have HBB := Lib.hid hBB
    clear h hB hb hbb hbn hn hN ht hI hf hlen hsm rB bB o1 o2 lB rC bC p1 p2 lC hno hfin hln hwB hwC hRB hBB hRw hbw hlen9
    go_enter Tryz.func23, Tryz.ntmps23
    go_wp2_with fail
    rw [← HwB.out, ← HRB.out, ← HBB.out]
    go_still_tail 11, (by kernel_rfl)
    change wpList _ _ _ _ _ wB.drew
    go_upto_region 2 with fail
    rw [← HwC.out]
    go_wp2_with (first
      | (go_at_call 40; refine hse.out.mono ?_; rintro e w1 ⟨rfl, d, rfl⟩)
      | (go_at_call 43; refine (len_calls _ _ _ _).mono ?_; rintro e w1 ⟨rfl, rfl⟩))
    obtain ⟨wE, hwE⟩ : ∃ wE : World, wE = wC.drewN d := ⟨_, rfl⟩
    have k1 : wE.cell? ⟨RB, 0, none⟩ = some (.pointer (some ⟨R, 0, none⟩)) := by rw [hwE]; exact d1
    have k2 : wE.cell? ⟨BB, 0, none⟩ = some (.pointer (some ⟨b, 0, none⟩)) := by rw [hwE]; exact d2
    have hpE := Lib.hid (hpu.out d)
    rw [← hwE] at hpE ⊢
    clear hwE d1 d2 d3 hpu
    go_still_tail 6, (by kernel_rfl)
    change wpList _ _ _ _ _ wE.drew
    go_wp2_with (go_at_call 44; refine hpE.out.mono ?_; rintro e w2 ⟨rfl, hP⟩)
    refine bodyPost_ret (results_none rfl _ _ _) rfl ?_
    obtain ⟨v', q1, q2⟩ := hP.out
    exact ⟨rfl, v', _, q1, q2, Hfin.out, by simp, hins.out⟩
  · obtain ⟨g, cap, cur, q1, _⟩ : ∃ g cap cur, Value.slice oa (A ++ x :: Z).length oc = .slice (some ⟨g, 0, none⟩) (A ++ x :: Z).length cap ∧ base ≤ g ∧ w.heap[g]? = some (.cells cur 42) ∧ (A ++ x :: Z).length ≤ cap ∧ cap ≤ maxLen ∧ cur.size = cap ∧ cur.toList.take (A ++ x :: Z).length = ptrs (A ++ x :: Z) := by
      rcases h.row with ⟨_, h0⟩ | h0
      · simp at h0
      · exact h0
    obtain ⟨rfl, _, rfl⟩ : oa = some ⟨g, 0, none⟩ ∧ True ∧ oc = cap := by injection q1 with a1 a2 a3; exact ⟨a1, trivial, a3⟩
    have hxm : x ∈ A ++ x :: Z := by simp
    have hlt : A.length < (A ++ x :: Z).length := by simp
    have htest : ∀ i, (hi : i < (A ++ x :: Z).length) → testAt (A ++ x :: Z) f i = decide (f * (A ++ x :: Z)[i].2.c ≤ (A ++ x :: Z)[i].2.s) := fun i hi => by simp only [testAt, List.getElem?_eq_getElem hi, Option.map_some, Option.getD_some]
    have hse := Lib.hid (search_bins (k := A.length) rC hsm hlen9 bC hf d1 d2 (Nat.le_of_lt hlt) (fun i hi => by
      rw [htest i (by omega), List.getElem_append_left hi]; exact decide_eq_false (hA _ (List.getElem_mem hi))) (fun i h1 h2 => by
      rw [htest i h2]
      refine decide_eq_true ?_
      rw [List.getElem_append_right h1]
      rcases Nat.eq_zero_or_pos (i - A.length) with h3 | h3
      · simp only [h3, List.getElem_cons_zero]; exact hx
      · obtain ⟨q, hq⟩ : ∃ q, i - A.length = q + 1 := ⟨i - A.length - 1, by omega⟩
        have hqz : q < Z.length := by simp at h2; omega
        have ez : (x :: Z)[i - A.length]'(by simp; omega) = Z[q] := by simp [hq]
        rw [ez]
        have ho := hI.ord
        rw [List.map_append, List.map_cons, List.pairwise_append] at ho
        have h5 := (List.pairwise_cons.1 ho.2.1).1 _ (List.mem_map_of_mem (f := (·.2)) (List.getElem_mem hqz))
        have h6 := Bn.one_lt hx h5
        unfold Bn.lt at h6
        simp at h6; omega))
    rw [← hln] at hse
    obtain ⟨kk, hkk⟩ : ∃ kk, kk = A.length := ⟨_, rfl⟩
    have hgx : (A ++ x :: Z)[kk]'(by omega) = x := by simp [hkk]
    have hcx : ∀ d, (wC.drewN d).cell? ⟨g, kk, none⟩ = some (.pointer (some ⟨x.1, 0, none⟩)) := fun d => by
      have := rC.cell kk (by omega)
      rw [hgx] at this; exact this
    have hxb : x.1 ≠ b := fun e => hbn (e ▸ List.mem_map_of_mem (f := (·.1)) hxm)
    have hup : Hid (∀ d, Calls Tryz.prog 45 #[.pointer (some ⟨x.1, 0, none⟩), .pointer (some ⟨b, 0, none⟩)] (wC.drewN d).drew fun e w' => e = .returned (.tuple #[]) ∧ Hid (Res w' base H R most (n + 1) (.slice (some ⟨g, 0, none⟩) (A ++ (x.1, (⟨x.2.c + 1, x.2.s + f⟩ : Bn.B)) :: Z).length oc) (A ++ (x.1, (⟨x.2.c + 1, x.2.s + f⟩ : Bn.B)) :: Z) ∧ RowKit.Below base w0 w')) :=
      Lib.hid fun d => (update_calls (w := (wC.drewN d).drew) (rC.bins x hxm) bC hxb (hsm x hxm).2.1 (hsm x hxm).2.2 (by omega) (by omega)).mono fun e w' ⟨h1, d', h2⟩ => ⟨h1, by
        subst h2
        have e1 := (((rC.drewN d).drewN 1).setBin (x.2.c + 1) (x.2.s + f)).drewN d'
        have el : (A ++ x :: Z).length = (A ++ (x.1, (⟨x.2.c + 1, x.2.s + f⟩ : Bn.B)) :: Z).length := by simp
        rw [el] at e1
        exact ⟨e1, below_drewN (((below_drewN lC d).drew.setCell (p := ⟨x.1, 0, none⟩) (rC.lt.2.2 x hxm) _).setCell (p := ⟨x.1, 1, none⟩) (rC.lt.2.2 x hxm) _) d'⟩⟩
    have hfin : Bn.Inv ((A ++ (x.1, (⟨x.2.c + 1, x.2.s + f⟩ : Bn.B)) :: Z).map (·.2)) (N + 1) (t + f) := by
      rw [List.map_append, List.map_cons] at hI ⊢
      exact hI.upd (fun y hy => by obtain ⟨a, ha, rfl⟩ := List.mem_map.1 hy; exact hA a ha) hx
    have Hfin := Lib.hid hfin
    have Hln := Lib.hid hln
    have HwB := Lib.hid hwB
    have HwC := Lib.hid hwC
    have HRB := Lib.hid hRB
    have HBB := Lib.hid hBB
    have hins : Hid ((A ++ (x.1, (⟨x.2.c + 1, x.2.s + f⟩ : Bn.B)) :: Z).map (·.2) = Bn.ins f ((A ++ x :: Z).map (·.2))) := Lib.hid (by
      rw [List.map_append, List.map_append, List.map_cons, List.map_cons, Bn.ins_at]
      · intro y hy; obtain ⟨a, ha, rfl⟩ := List.mem_map.1 hy; exact hA a ha
      · exact hx)
    have hk1 : (0 : Int) ≤ (kk : Int) := by omega
    have hk2 : (kk : Int) < (ln : Int) := by omega
    have hk3 : ((kk : Int) == (ln : Int)) = false := by simp; omega
    have hcb : ∀ d, (wC.drewN d).cell? ⟨BB, 0, none⟩ = some (.pointer (some ⟨b, 0, none⟩)) := fun d => d2
    rw [← hkk] at hse
    clear h hB hb hbb hbn hn hN ht hI hf hlen hsm rB bB o1 o2 lB rC bC p1 p2 lC hA hx hfin hln hwB hwC hRB hBB hRw hbw hlen9 hkk hgx hxb htest hlt hxm q1
    go_enter Tryz.func23, Tryz.ntmps23
    go_wp2_with fail
    rw [← HwB.out, ← HRB.out, ← HBB.out]
    go_still_tail 11, (by kernel_rfl)
    change wpList _ _ _ _ _ wB.drew
    go_upto_region 2 with fail
    rw [← HwC.out]
    go_wp2_with (first
      | (go_at_call 40; refine hse.out.mono ?_; rintro e w1 ⟨rfl, d, rfl⟩)
      | (go_at_call 43; refine (len_calls _ _ _ _).mono ?_; rintro e w1 ⟨rfl, rfl⟩))
    obtain ⟨wE, hwE⟩ : ∃ wE : World, wE = wC.drewN d := ⟨_, rfl⟩
    have k1 : wE.cell? ⟨RB, 0, none⟩ = some (.pointer (some ⟨R, 0, none⟩)) := by rw [hwE]; exact d1
    have k2 : wE.cell? ⟨BB, 0, none⟩ = some (.pointer (some ⟨b, 0, none⟩)) := by rw [hwE]; exact d2
    have k3 : wE.cell? ⟨R, 2, none⟩ = some (.slice (some ⟨g, 0, none⟩) ln oc) := by rw [hwE]; exact d3
    have k4 : wE.cell? ⟨g, kk, none⟩ = some (.pointer (some ⟨x.1, 0, none⟩)) := by rw [hwE]; exact hcx d
    have hpE := Lib.hid (hup.out d)
    rw [← hwE] at hpE ⊢
    clear hwE d1 d2 d3 hup hcx hcb
    go_still_tail 8, (by kernel_rfl)
    change wpList _ _ _ _ _ wE.drew
    go_wp2_with (go_at_call 45; refine hpE.out.mono ?_; rintro e w2 ⟨rfl, hP⟩)
    go_end0
    exact ⟨rfl, _, _, hP.out.1, hP.out.2, Hfin.out, by simp, hins.out⟩
end Go.Proofs.YthcgojhfbcgaiaaGreat
