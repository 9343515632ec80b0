/- sort.Sort of the list of centroids behind a pointer. Conditions: the means are floats that are finite and not negative. append of a list that may be empty; the sort of the unprocessed. Conditions: the digest lies in memory. The loop of process, over its rounds. Plain lemmas. -/
import Derived.Test.YthcgojhfbcgaiaaGreatDoorMBA
import Derived.Test.YthcgojhfbcgaiaaGreatDoorMAT
import Derived.Test.YthcgojhfbcgaiaaGreatDoorMAW

namespace Go.Proofs.YthcgojhfbcgaiaaGreatDoor
open Go.RowKit Go.Sort Go.Proofs

/-- sort.Sort of the centroids behind a pointer: a sorted permutation. -/
theorem cen_Sort {r o : Nat} (blk n c : Nat) (w : World) (d : Array Cen) (hd : d.size = n) (h2 : 2 ≤ n) (hsz : n < 4611686018427387904) (hH : HoldsK encS 2 w blk 0 d) (hblk : blk < w.heap.size)
    (hc : w.cell? ⟨r, o, none⟩ = some (.slice (some ⟨blk, 0, none⟩) n c)) (hne : r ≠ blk) :
    Calls Tryz.prog 47 #[.iface 74 (.pointer (some ⟨r, o, none⟩))] w fun e w' => e = .returned (.tuple #[]) ∧
      ∃ d' k os, PermIn 0 n d d' ∧ SortedIn ltC 0 n d' ∧ w' = grow (putRowK encS 2 (Sort.ahead w k) blk 0 d') os := by
  subst hd
  have kp : Kept r o (.slice (some ⟨blk, 0, none⟩) d.size c) blk w := ⟨hc, hne⟩
  exact sort_Sort_sortedP (P := Tryz.prog) Tryz.laysGt11 74 _ _ _ _ (reachC_Len r o _ _ _) (reachC_Less r o _ _ _) (reachC_Swap r o _ _ _) encS 2 encS_len ltC ltC_SWO blk 0 d h2 hsz w
    ((cen_Len _ _ _ _).mono fun e w' ⟨he, hw⟩ => ⟨he, 0, by rw [← hw]; rfl⟩) (cen_LessM blk 0 _ c w d rfl hH hblk) (cen_SwapM blk 0 _ c) hH hblk
end Go.Proofs.YthcgojhfbcgaiaaGreatDoor

namespace Go.Proofs.YthcgojhfbcgaiaaGreatDoor
open Go.RowKit Go.Sort Go.Proofs

section
variable {P : Program} (w : World)
/-- append, where the result is not empty: what is appended may be. -/
theorem run_append_any (t ty : TypeId) (base : Nat) (e : TypeId) (i : TypeInfo) (z : Value) (size bytes : Nat) (ht : P.underlying t = some (.slice e)) (hi : P.info? e = some i) (hz : i.zero = some z)
    (hsize : i.size = size) (hby : i.bytes = bytes) (hzs : z.cells.size = size) (hsz : 0 < size)
    (v : Value) (n : Nat) (xs : List Value) (hown : w.ownsRow base e size v n xs)
    (ad : Addr) (m c : Nat) (news : List Value) (hl : news.length = m * size) (hnews : ∀ j u, news[j]? = some u → w.cell? (ad.add j) = some u) (h1 : ∀ u ∈ news, u.oneCell' = true)
    (hm : 0 < n + m) (h63 : n + m ≤ maxLen) (hbytes : (n + m) * bytes ≤ 140737488355328) (hbase : base ≤ w.heap.size) (H : Nat) (hH : w.heap.size = H) :
    ∃ g cap w', (Builtin.append_ #[t, t] ty #[v, .slice (some ad) m c]).run P w = .ok (.slice (some ⟨g, 0, none⟩) (n + m) cap) w' ∧
      w'.ownsRow base e size (.slice (some ⟨g, 0, none⟩) (n + m) cap) (n + m) (xs ++ news) ∧ w.grownBy w' v.ownBlock ∧ (v.ownBlock = some g ∨ g = H) ∧ g < w'.heap.size := by
  obtain ⟨v', w', hr, h2, h3, _, h5⟩ := run_append_own_at (P := P) w base t ty e i z size bytes ht hi hz hsize hby hzs hsz v n xs hown ad m c news hl hnews h1 h63 hbytes hbase
  obtain ⟨g, cap, rfl, _, hlt⟩ := h2.form hm
  refine ⟨g, cap, w', hr, h2, h3, ?_, hlt⟩
  rcases h5 with h5 | h5
  · exact .inl (by rw [← h5]; rfl)
  · right
    have : g = w.heap.size := by simpa [Value.ownBlock] using h5
    rw [this, hH]
theorem step_append_any {ops : Array Oper} {o : Oper} {a : Act} {K : Act → World → Prop} {Q : Exit → Act → World → Prop} {E : Prop} (hgd : o.guard = none) (s x : Operand) (t : TypeId)
    (ho : o.op = .call { callee := .builtin .append, args := #[s, x], argTypes := #[t, t] })
    (base : Nat) (e : TypeId) (i : TypeInfo) (z : Value) (size bytes : Nat) (ht : P.underlying t = some (.slice e)) (hi : P.info? e = some i) (hz : i.zero = some z)
    (hsize : i.size = size) (hby : i.bytes = bytes) (hzs : z.cells.size = size) (hsz : 0 < size)
    (v : Value) (n : Nat) (xs : List Value) (hs : a.eval s = v) (hown : w.ownsRow base e size v n xs)
    (ad : Addr) (m c : Nat) (news : List Value) (hx : a.eval x = .slice (some ad) m c) (hl : news.length = m * size) (hnews : ∀ j u, news[j]? = some u → w.cell? (ad.add j) = some u) (h1 : ∀ u ∈ news, u.oneCell' = true)
    (hm : 0 < n + m) (h63 : n + m ≤ maxLen) (hbytes : (n + m) * bytes ≤ 140737488355328) (hbase : base ≤ w.heap.size) (H : Nat) (hH : w.heap.size = H)
    (h : ∀ g cap w', w'.ownsRow base e size (.slice (some ⟨g, 0, none⟩) (n + m) cap) (n + m) (xs ++ news) → w.grownBy w' v.ownBlock → (v.ownBlock = some g ∨ g = H) → g < w'.heap.size → K (a.put o.dst (.slice (some ⟨g, 0, none⟩) (n + m) cap)) w') :
    if Region.wanted o (yielded ops a.tmps) = true then Oper.wp P o a w K Q else E := by
  have hw : Region.wanted o (yielded ops a.tmps) = true := by simp [Region.wanted, hgd]
  rw [if_pos hw]
  obtain ⟨g, cap, w', hr, h2, h3, h4, h5⟩ := run_append_any (P := P) w t o.type base e i z size bytes ht hi hz hsize hby hzs hsz v n xs hown ad m c news hl hnews h1 hm h63 hbytes hbase H hH
  unfold Oper.wp execOp
  simp only [ho, resolve, invoke, builtin, Sem.run_bind, Sem.run_pure, Result.andThen_ok, List.map_toArray, List.map_cons, List.map_nil, hs, hx, hr]
  exact h g cap w' h2 h3 h4 h5
end

section
variable {S : List Nat} {w0 w : World} {base g c : Nat} {l : Lo} {P U : List Cen} {X : List Nat} {pw uw mn mx : Nat}
/-- What an append to the unprocessed needs, and what it leaves. -/
theorem PM.appU (h : PM S w0 w base g c l P U X pw uw mn mx) (N : List Cen) : ∀ (b cap : Nat) (w1 : World), w1.ownsRow base 49 2 (.slice (some ⟨b, 0, none⟩) (U.length + N.length) cap) (U.length + N.length) (flatC U ++ flatC N) →
    w.grownBy w1 (Value.slice (some ⟨l.bU, 0, none⟩) U.length l.cU).ownBlock → ((Value.slice (some ⟨l.bU, 0, none⟩) U.length l.cU).ownBlock = some b ∨ b = w.heap.size) →
    w1.frozen? ⟨g, 4, none⟩ = false ∧ w1.cell? ⟨g, 4, none⟩ = some (.slice (some ⟨l.bU, 0, none⟩) U.length l.cU) ∧
    Hid (PM S w0 (w1.setCell ⟨g, 4, none⟩ (.slice (some ⟨b, 0, none⟩) (U.length + N.length) cap)) base g c { l with bU := b, cU := cap } P (U ++ N) X pw uw mn mx) := fun b cap w1 ho hg hb => by
  have hg' : w.grownBy w1 (some l.bU) := hg
  have e1 : w1.heap[g]? = _ := (grown_blk hg' (lt_of_at h.hd) (by intro e; injection e with e; exact h.gU e)).trans h.hd
  refine ⟨free_of e1, cell_of e1 rfl, ?_⟩
  have hb' : b = l.bU ∨ w.heap.size ≤ b := by
    rcases hb with hb | hb
    · left; injection hb with hb; exact hb.symm
    · right; omega
  rw [← flatC_append, ← List.length_append] at ho
  have := h.putU (U' := U ++ N) hg' hb' ho
  rw [List.length_append] at this
  exact this
theorem PM.appP (h : PM S w0 w base g c l P U X pw uw mn mx) (N : List Cen) : ∀ (b cap : Nat) (w1 : World), w1.ownsRow base 49 2 (.slice (some ⟨b, 0, none⟩) (P.length + N.length) cap) (P.length + N.length) (flatC P ++ flatC N) →
    w.grownBy w1 (Value.slice (some ⟨l.bP, 0, none⟩) P.length l.cP).ownBlock → ((Value.slice (some ⟨l.bP, 0, none⟩) P.length l.cP).ownBlock = some b ∨ b = w.heap.size) →
    w1.frozen? ⟨g, 3, none⟩ = false ∧ w1.cell? ⟨g, 3, none⟩ = some (.slice (some ⟨l.bP, 0, none⟩) P.length l.cP) ∧
    Hid (PM S w0 (w1.setCell ⟨g, 3, none⟩ (.slice (some ⟨b, 0, none⟩) (P.length + N.length) cap)) base g c { l with bP := b, cP := cap } (P ++ N) U X pw uw mn mx) := fun b cap w1 ho hg hb => by
  have hg' : w.grownBy w1 (some l.bP) := hg
  have e1 : w1.heap[g]? = _ := (grown_blk hg' (lt_of_at h.hd) (by intro e; injection e with e; exact h.gP e)).trans h.hd
  refine ⟨free_of e1, cell_of e1 rfl, ?_⟩
  have hb' : b = l.bP ∨ w.heap.size ≤ b := by
    rcases hb with hb | hb
    · left; injection hb with hb; exact hb.symm
    · right; omega
  rw [← flatC_append, ← List.length_append] at ho
  have := h.putP (P' := P ++ N) hg' hb' ho
  rw [List.length_append] at this
  exact this

/-- updateCumulative, over the digest. -/
theorem updPM_calls (h : PM S w0 w base g c l P U X pw uw mn mx) (hw : wt P ≤ 2 ^ 20) (hl : P.length ≤ 2 ^ 20) :
    Calls Tryz.prog 54 #[.pointer (some ⟨g, 0, none⟩)] w fun e w' => e = .returned (.tuple #[]) ∧
      Hid (∃ l' : Lo, l'.bU = l.bU ∧ PM S w0 w' base g c l' P U (cumX P) pw uw mn mx) := by
  obtain ⟨kk, hC, hU, hK⟩ : ∃ kk, ((l.oC = none ∧ l.cC = 0 ∧ l.nC = 0) ∨ (l.oC = some ⟨kk, 0, none⟩ ∧ FRow w kk l.cC [] ∧ base ≤ kk ∧ l.nC ≤ l.cC)) ∧ l.bU ≠ kk ∧ ∀ q ∈ [g, kk], q ∈ S ∨ w0.heap.size ≤ q := by
    rcases h.rC with ⟨a, b, d, _⟩ | ⟨a, b, d, e⟩
    · exact ⟨g, .inl ⟨a, b, d⟩, Ne.symm h.gU, fun q hq => h.inS q (by simp at hq; simp [hq])⟩
    · obtain ⟨cur, e1, _⟩ := h.rU.row
      exact ⟨l.kC, .inr ⟨a, b.emp, e, by rw [d]; exact b.le⟩, b.ne e1 tC_F, fun q hq => h.inS q (by simp at hq; rcases hq with rfl | rfl <;> simp)⟩
  refine (upd_calls h.hd h.rP hC h.ge.1 hw hl).mono ?_
  rintro e w' ⟨rfl, bC', cC', h1, h2, h3, h4, h5, h6, h7⟩
  have hcl : (cumX P).length = P.length + 1 := by simp [cumX, cumPre_len]
  refine ⟨rfl, Lib.hid ⟨{ l with oC := some ⟨bC', 0, none⟩, nC := P.length + 1, cC := cC', kC := bC' }, rfl, ?_⟩⟩
  refine ⟨h1, h2, h.rU.block (h7.same _ h.rU.lt (by simp; exact ⟨Ne.symm h.gU, hU⟩)), .inr ⟨rfl, h3, hcl.symm, h5⟩, h.ne, ⟨h.ge.1, h.ge.2.1, h.ge.2.2.1, Nat.le_trans h.ge.2.2.2 h7.size⟩, h.bel.trans h6, h.fr.sub h7 hK, fun q hq => ?_⟩
  simp only [List.mem_cons, List.not_mem_nil, or_false] at hq
  rcases hq with rfl | rfl | rfl | rfl
  · exact h.inS _ (by simp)
  · exact h.inS _ (by simp)
  · exact h.inS _ (by simp)
  · rcases h4 with h4 | h4
    · rw [h4]; exact hK _ (by simp)
    · right; have := h.fr.size; omega
/-- The sort of the unprocessed. -/
theorem sortU_calls (h : PM S w0 w base g c l P U X pw uw mn mx) (hv : ∀ x ∈ U, x.m ≤ FI 1000) (hl : U.length ≤ 2 ^ 20) :
    Calls Tryz.prog 47 #[.iface 74 (.pointer (some ⟨g, 4, none⟩))] w fun e w' => e = .returned (.tuple #[]) ∧
      Hid (∃ ys : List Cen, ys.Perm U ∧ ys.Pairwise (fun a b => a.m ≤ b.m) ∧ PM S w0 w' base g c l P ys X pw uw mn mx) := by
  have hI := FI_in 1000 (by omega)
  have hv' : ∀ x ∈ U, x.m < 2047 * 2 ^ 52 := fun x hx => by have := hv x hx; omega
  have c4 : w.cell? ⟨g, 4, none⟩ = some (.slice (some ⟨l.bU, 0, none⟩) U.length l.cU) := cell_of h.hd rfl
  rcases Nat.lt_or_ge U.length 2 with h1 | h2
  · refine (cen_Sort_tiny _ _ _ w (by omega) c4).mono ?_
    rintro e w' ⟨rfl, rfl⟩
    refine ⟨rfl, Lib.hid ⟨U, .refl _, ?_, h⟩⟩
    match U, h1 with
    | [], _ => exact .nil
    | [a], _ => simp
    | a :: b :: r, h1 => simp at h1; omega
  · refine (cen_Sort l.bU U.length l.cU w U.toArray (by simp) h2 (by omega) (h.rU.holds hv') h.rU.lt c4 h.gU).mono ?_
    rintro e w' ⟨rfl, d', k, os, hp, hsd, rfl⟩
    have hds : d'.size = U.length := by rw [hp.1]; simp
    have hperm : d'.toList.Perm U := by
      have := hp.2.2
      rw [Array.extract_eq_self_of_le (by omega), Array.extract_eq_self_of_le (by simp)] at this
      simpa using this
    have hvd : ∀ x ∈ d'.toList, x.m < 2047 * 2 ^ 52 := fun x hx => hv' x (hperm.mem_iff.1 hx)
    refine ⟨rfl, Lib.hid ⟨d'.toList, hperm, ?_, h.sorted hds hvd⟩⟩
    rw [List.pairwise_iff_getElem]
    intro i j hi hj hij
    have := hsd i j (by omega) hij (by simp at hj; omega)
    have e1 := hvd _ (List.getElem_mem hi)
    have e2 := hvd _ (List.getElem_mem hj)
    simp at hi hj
    rw [getElem!_pos d' i hi, getElem!_pos d' j hj] at this
    simp only [Array.getElem_toList] at e1 e2 ⊢
    simp only [ltC, decide_eq_false_iff_not, san_of e1, san_of e2] at this
    omega
end
end Go.Proofs.YthcgojhfbcgaiaaGreatDoor

namespace Go.Proofs.YthcgojhfbcgaiaaGreatDoor
open Go.RowKit Go.Proofs

structure LpP (c W : Nat) (y0 : Cen) (yr : List Cen) (D A Z : List Cen) (cur : Cen) (s lm : Nat) : Prop where
  e : yr = A ++ Z
  es : s = y0.w + wt A
  mm : mergeL (limN c W) (lim0 c W) y0.w y0 yr = D ++ mergeL (limN c W) lm s cur Z
  o : ∀ z ∈ Z, cur.m ≤ z.m
  w1 : 1 ≤ cur.w
  cw : cur.w ≤ s
  lmB : Mp lm 921
  dl : D.length ≤ A.length
section
variable {c W : Nat} {y0 : Cen} {yr D A Z : List Cen} {cur x : Cen} {s lm : Nat}
theorem LpP.start (hs : (y0 :: yr).Pairwise (fun a b => a.m ≤ b.m)) (hw : 1 ≤ y0.w) (hl : Mp (lim0 c W) 921) : LpP c W y0 yr [] [] yr y0 y0.w (lim0 c W) :=
  ⟨rfl, by simp [wt_nil], rfl, fun z hz => (List.pairwise_cons.1 hs).1 z hz, hw, Nat.le_refl _, hl, Nat.le_refl _⟩
theorem LpP.rest (h : LpP c W y0 yr D A (x :: Z) cur s lm) (hs : (y0 :: yr).Pairwise (fun a b => a.m ≤ b.m)) : ∀ z ∈ Z, x.m ≤ z.m := by
  have := (List.pairwise_cons.1 hs).2
  rw [h.e] at this
  exact (List.pairwise_cons.1 (List.pairwise_append.1 this).2.1).1
theorem LpP.merge (h : LpP c W y0 yr D A (x :: Z) cur s lm) (hs : (y0 :: yr).Pairwise (fun a b => a.m ≤ b.m)) (hx : x.m ≤ FI 1000) (hx1 : 1 ≤ x.w) (hW : s + x.w ≤ 2 ^ 20) (hle : leF (FI (s + x.w)) lm = true) :
    LpP c W y0 yr D (A ++ [x]) Z (addC cur x) (s + x.w) lm := by
  obtain ⟨_, _, _, _, _, _, _, a1, a2⟩ := addC_ok (h.o x (by simp)) hx h.w1 hx1 (by have := h.cw; omega)
  refine ⟨by rw [h.e]; simp, by rw [h.es, wt_append, wt_cons, wt_nil]; omega, ?_, fun z hz => Nat.le_trans a2 (h.rest hs z hz), ?_, ?_, h.lmB, by have := h.dl; simp; omega⟩
  · rw [h.mm, mergeL, if_pos hle]
  · show 1 ≤ cur.w + x.w; omega
  · show cur.w + x.w ≤ s + x.w; have := h.cw; omega
theorem LpP.fresh (h : LpP c W y0 yr D A (x :: Z) cur s lm) (hs : (y0 :: yr).Pairwise (fun a b => a.m ≤ b.m)) (hx1 : 1 ≤ x.w) (hle : leF (FI (s + x.w)) lm = false) (hl : Mp (limN c W s) 921) :
    LpP c W y0 yr (D ++ [cur]) (A ++ [x]) Z x (s + x.w) (limN c W s) := by
  refine ⟨by rw [h.e]; simp, by rw [h.es, wt_append, wt_cons, wt_nil]; omega, ?_, h.rest hs, hx1, by omega, hl, by have := h.dl; simp; omega⟩
  rw [h.mm, mergeL, if_neg (by rw [hle]; simp)]
  simp
theorem LpP.last (h : LpP c W y0 yr D A [] cur s lm) : mergeL (limN c W) (lim0 c W) y0.w y0 yr = D ++ [cur] := by
  rw [h.mm, mergeL]
theorem LpP.le (h : LpP c W y0 yr D A (x :: Z) cur s lm) (hW : wt (y0 :: yr) = W) : s + x.w ≤ W := by
  rw [h.es, ← hW, h.e, wt_cons, wt_append, wt_cons]; omega
end
theorem leF_of {x l : Nat} {o : Ordering} (h : FloatKind.f64.format.order x l = some o) : leF x l = decide (o ≠ .gt) := by
  unfold leF
  rw [h]
  cases o <;> rfl
end Go.Proofs.YthcgojhfbcgaiaaGreatDoor
