/- The stream with its summary, over the steps of merge and compress. Plain lemmas on worlds. -/
import Derived.Test.YthcgojhfbcgaiaaTgtMax
import Derived.Deep.AppendLies
namespace Go.Proofs.Ythcgojhfbcgaiaa
open Go.RowKit Go.Sort Go.Proofs

/-- A summary's element as it lies in memory. -/
def smF (x : Ckms.Sm) : SmpF := ⟨fN x.v, floatOfInt .f64 (x.g : Int), floatOfInt .f64 (x.d : Int)⟩

structure MS (w : World) (base top S T Q QA B k m n : Nat) (so : Bool) (bc : Array Value) (lv : Value) (L : List SmpF) : Prop where
  str : Strm w base S T Q QA B (FX (k : Int)) 4581421828931458171 m so (floatOfInt .f64 (n : Int)) lv bc
  own : w.ownsRow top 88 3 lv L.length (flatS L)
  lt : S < top ∧ T < top ∧ Q < top ∧ QA < top ∧ B < top
  sz : top ≤ w.heap.size
  bt : base ≤ top

section
variable {w : World} {base top S T Q QA B k m n : Nat} {so : Bool} {bc : Array Value} {lv : Value} {L : List SmpF}
theorem Strm.alloc {q e : Nat} {nf : Nat} (h : Strm w base S T Q QA B q e m so nf lv bc) (o : Obj) : Strm (w.alloc o) base S T Q QA B q e m so nf lv bc :=
  ⟨at_alloc _ h.hS, at_alloc _ h.hT, at_alloc _ h.hQ, at_alloc _ h.hQA, at_alloc _ h.hB, h.bsize, h.lt, h.ne⟩
theorem MS.alloc (h : MS w base top S T Q QA B k m n so bc lv L) (o : Obj) : MS (w.alloc o) base top S T Q QA B k m n so bc lv L :=
  ⟨h.str.alloc o, h.own.alloc o, h.lt, by simp; have := h.sz; omega, h.bt⟩
theorem MS.drewN (h : MS w base top S T Q QA B k m n so bc lv L) (j : Nat) : MS (w.drewN j) base top S T Q QA B k m n so bc lv L :=
  ⟨h.str.drewN j, h.own, h.lt, h.sz, h.bt⟩
/-- What a value's block is not. -/
theorem MS.far (h : MS w base top S T Q QA B k m n so bc lv L) {b : Nat} (hb : b < top) : some b ≠ lv.ownBlock := fun e => by
  have := (h.own.lt b e.symm).1; omega
theorem grown_at {w' : World} {row : Option Nat} (hg : w.grownBy w' row) {b : Nat} {o : Obj} (hb : w.heap[b]? = some o) (hne : some b ≠ row) : w'.heap[b]? = some o := by
  rw [hg.block b (lt_of_at hb) hne]; exact hb
theorem MS.grown (h : MS w base top S T Q QA B k m n so bc lv L) {w' : World} (hg : w.grownBy w' lv.ownBlock) : Strm w' base S T Q QA B (FX (k : Int)) 4581421828931458171 m so (floatOfInt .f64 (n : Int)) lv bc :=
  ⟨grown_at hg h.str.hS (h.far h.lt.1), grown_at hg h.str.hT (h.far h.lt.2.1), grown_at hg h.str.hQ (h.far h.lt.2.2.1), grown_at hg h.str.hQA (h.far h.lt.2.2.2.1), grown_at hg h.str.hB (h.far h.lt.2.2.2.2), h.str.bsize, h.str.lt, h.str.ne⟩
theorem Strm.setT1 {q e : Nat} {nf : Nat} (h : Strm w base S T Q QA B q e m so nf lv bc) (v : Value) : Strm (w.setCell ⟨T, 1, none⟩ v) base S T Q QA B q e m so nf v bc := by
  obtain ⟨hne1, hne2, hne3, hne4, hne5, hne6, hne7, hne8, hne9, hne10⟩ := h.ne
  exact ⟨at_set_other _ (Ne.symm hne1) h.hS, at_set h.hT 1 v, at_set_other _ hne5 h.hQ, at_set_other _ hne6 h.hQA, at_set_other _ hne7 h.hB, h.bsize, h.lt, h.ne⟩
theorem Strm.setT0 {q e : Nat} {nf : Nat} (h : Strm w base S T Q QA B q e m so nf lv bc) (f : Nat) : Strm (w.setCell ⟨T, 0, none⟩ (.float .f64 f)) base S T Q QA B q e m so f lv bc := by
  obtain ⟨hne1, hne2, hne3, hne4, hne5, hne6, hne7, hne8, hne9, hne10⟩ := h.ne
  exact ⟨at_set_other _ (Ne.symm hne1) h.hS, at_set h.hT 0 _, at_set_other _ hne5 h.hQ, at_set_other _ hne6 h.hQA, at_set_other _ hne7 h.hB, h.bsize, h.lt, h.ne⟩
theorem own_set_far {w : World} {top : Nat} {v : Value} {L : List SmpF} (h : w.ownsRow top 88 3 v L.length (flatS L)) {a : Addr} (ha : some a.block ≠ v.ownBlock) (u : Value) : (w.setCell a u).ownsRow top 88 3 v L.length (flatS L) := by
  rcases h.2 with ⟨h1, h2⟩ | ⟨g, cap, cur, h1, h2, h3, h4⟩
  · exact ⟨h.1, .inl ⟨h1, h2⟩⟩
  · refine ⟨h.1, .inr ⟨g, cap, cur, h1, h2, ?_, h4⟩⟩
    subst h1
    exact at_set_other u (fun e => ha (by rw [e]; rfl)) h3
/-- .. a value appended, and stored as the summary. -/
theorem MS.put (h : MS w base top S T Q QA B k m n so bc lv L) {w' : World} (hg : w.grownBy w' lv.ownBlock) {v' : Value} {L' : List SmpF} (ho : w'.ownsRow top 88 3 v' L'.length (flatS L')) :
    MS (w'.setCell ⟨T, 1, none⟩ v') base top S T Q QA B k m n so bc v' L' :=
  ⟨(h.grown hg).setT1 v', own_set_far ho (fun e => by have := (ho.lt T e.symm).1; have := h.lt.2.1; omega) _, h.lt, by have := hg.size; have := h.sz; simp [World.setCell]; omega, h.bt⟩
theorem MS.addN (h : MS w base top S T Q QA B k m n so bc lv L) (n' : Nat) : MS (w.setCell ⟨T, 0, none⟩ (.float .f64 (floatOfInt .f64 (n' : Int)))) base top S T Q QA B k m n' so bc lv L :=
  ⟨h.str.setT0 _, own_set_far h.own (fun e => by have := (h.own.lt T e.symm).1; have := h.lt.2.1; omega) _, h.lt, by have := h.sz; simp [World.setCell]; omega, h.bt⟩
/-- .. stores within the summary's row. -/
theorem MS.turn (h : MS w base top S T Q QA B k m n so bc lv L) {g cap o : Nat} {cur : Array Value} {L' : List SmpF} (hlv : lv = .slice (some ⟨g, 0, none⟩) L.length cap) (hg : w.heap[g]? = some (.cells cur 88)) (hcs : cur.size = cap * 3) (hcm : L.length ≤ cap ∧ cap ≤ maxLen)
    (vs : List Value) (hl : L'.length = L.length) (hb : BufIs (setMany cur o vs) L') : MS (w.setCells g o vs) base top S T Q QA B k m n so bc lv L' := by
  have hgt : top ≤ g := (h.own.lt g (by rw [hlv]; rfl)).1
  obtain ⟨l1, l2, l3, l4, l5⟩ := h.lt
  refine ⟨⟨at_sets_other (by omega) h.str.hS _ _, at_sets_other (by omega) h.str.hT _ _, at_sets_other (by omega) h.str.hQ _ _, at_sets_other (by omega) h.str.hQA _ _, at_sets_other (by omega) h.str.hB _ _, h.str.bsize, h.str.lt, h.str.ne⟩, ?_, h.lt, by rw [size_setCells]; exact h.sz, h.bt⟩
  rw [hlv, ← hl]
  exact own_shut hgt (at_sets hg _ _) (by omega) hcm.2 (by rw [size_setMany]; exact hcs) hb
theorem fN_lt (a b : Nat) (ha : a < 2 ^ 40) (hb : b < 2 ^ 40) : (FloatKind.f64.format.order (fN a).b (fN b).b == some .gt) = decide (b < a) := by
  rw [fN_b a (by omega), fN_b b (by omega)]; exact fi_gt a b ha hb
/-- The worlds of an insertion: the copy, the closure, the store. -/
def insW (w2 : World) (g2 i : Nat) (L : List SmpF) (qf ef d : Nat) (x : SmpF) : World := (cloW (w2.drew.setCells g2 ((i + 1) * 3) (flatS (L.drop i))).drew qf ef d).setCells g2 (i * 3) (encSmp x)
theorem cloW_at {w : World} {X : Nat} {o : Obj} (h : w.heap[X]? = some o) (qf ef d : Nat) : (cloW w qf ef d).heap[X]? = some o := by
  unfold cloW
  exact at_alloc (.cells #[.float .f64 qf, .float .f64 ef] 79) h
theorem cloW_size (w : World) (qf ef d : Nat) : (cloW w qf ef d).heap.size = w.heap.size + 1 := by
  unfold cloW
  exact World.size_alloc w _
theorem insW_far {w : World} {L : List SmpF} {g2 X : Nat} {o : Obj} (hne : ¬ g2 = X) (h : w.heap[X]? = some o) (i qf ef d : Nat) (x : SmpF) : (insW w g2 i L qf ef d x).heap[X]? = some o := by
  unfold insW
  have h1 : (w.drew.setCells g2 ((i + 1) * 3) (flatS (L.drop i))).heap[X]? = some o := at_sets_other hne (show w.drew.heap[X]? = some o from h) _ _
  exact at_sets_other hne (cloW_at (w := (w.drew.setCells g2 ((i + 1) * 3) (flatS (L.drop i))).drew) h1 qf ef d) _ _
theorem MS.insert {g2 cap2 : Nat} (h : MS w base top S T Q QA B k m n so bc (.slice (some ⟨g2, 0, none⟩) (L.length + 1) cap2) (L ++ [default])) {i : Nat} (hi : i ≤ L.length) (x : SmpF) (qf ef d : Nat) :
    MS (insW w g2 i L qf ef d x) base top S T Q QA B k m n so bc (.slice (some ⟨g2, 0, none⟩) (L.length + 1) cap2) (L.take i ++ x :: L.drop i) := by
  have hgt : top ≤ g2 := (h.own.lt g2 rfl).1
  obtain ⟨l1, l2, l3, l4, l5⟩ := h.lt
  have far : ∀ {b : Nat} {o : Obj}, b < top → w.heap[b]? = some o → (insW w g2 i L qf ef d x).heap[b]? = some o := fun hb ho => insW_far (by omega) ho _ _ _ _ _
  obtain ⟨cur, q2, q3, q4, q5, q6⟩ : ∃ cur, w.heap[g2]? = some (.cells cur 88) ∧ L.length + 1 ≤ cap2 ∧ cap2 ≤ maxLen ∧ cur.size = cap2 * 3 ∧ BufIs cur (L ++ [default]) := by
    have e : (L ++ [default]).length = L.length + 1 := by simp
    have ho := h.own
    rcases own_open ho with ⟨h0, _⟩ | ⟨g', cap', cur, a1, a2, a3, a4, a5, a6, a7⟩
    · cases h0
    · obtain ⟨rfl, rfl⟩ : g2 = g' ∧ cap2 = cap' := by injection a1 with b1 b2 b3; injection b1 with b1; injection b1 with b1; exact ⟨b1, b3⟩
      exact ⟨cur, a3, by omega, a5, a6, a7⟩
  have hlen : (L.take i ++ x :: L.drop i).length = L.length + 1 := by simp; omega
  refine ⟨⟨far l1 h.str.hS, far l2 h.str.hT, far l3 h.str.hQ, far l4 h.str.hQA, far l5 h.str.hB, h.str.bsize, h.str.lt, h.str.ne⟩, ?_, h.lt, ?_, h.bt⟩
  · have c1 : (w.drew.setCells g2 ((i + 1) * 3) (flatS (L.drop i))).heap[g2]? = _ := at_sets (show w.drew.heap[g2]? = _ from q2) _ _
    have c2 := at_sets (cloW_at (w := (w.drew.setCells g2 ((i + 1) * 3) (flatS (L.drop i))).drew) c1 qf ef d) (i * 3) (encSmp x)
    have ho := own_shut (L := L.take i ++ x :: L.drop i) (top := top) (cap := cap2) hgt c2 (by omega) q4 (by rw [size_setMany, size_setMany]; exact q5) (q6.inserted i hi x)
    rw [hlen] at ho ⊢
    exact ho
  · have := h.sz
    unfold insW
    rw [size_setCells, cloW_size]
    show top ≤ (w.drew.setCells g2 ((i + 1) * 3) (flatS (L.drop i))).heap.size + 1
    rw [size_setCells]
    show top ≤ w.heap.size + 1
    omega
theorem insW_below {a : World} {g2 : Nat} (h : RowKit.Below base a w) (hg : base ≤ g2) (hb : base ≤ w.heap.size) (i qf ef d : Nat) (x : SmpF) : RowKit.Below base a (insW w g2 i L qf ef d x) := by
  unfold insW
  refine below_sets hg _ _ _ ?_
  unfold cloW
  refine (below_drewN (RowKit.Below.alloc (below_sets hg _ _ _ h.drew).drew ?_ _) _)
  show base ≤ (w.drew.setCells g2 ((i + 1) * 3) (flatS (L.drop i))).heap.size
  rw [size_setCells]; exact hb
theorem enc_new (b : Nat) : encSmp (smF ⟨b, 1, 0⟩) = [.float .f64 (fN b).b, .float .f64 (floatOfInt .f64 1), .float .f64 0] := by
  have h0 := nan0
  unfold smF encSmp
  simp only
  rw [h0, show ((1 : Nat) : Int) = 1 from rfl]
theorem flat_new (D : List Ckms.Sm) (b : Nat) : flatS (D.map smF) ++ [Value.float .f64 (fN b).b, .float .f64 (floatOfInt .f64 1), .float .f64 0] = flatS (((D ++ [(⟨b, 1, 0⟩ : Ckms.Sm)]) ++ []).map smF) := by
  rw [List.append_nil, List.map_append, flatS_append, ← enc_new]
  congr 1
theorem Fq_le {k : Nat} (h1 : 1 ≤ k) (h2 : k ≤ 15) (r n : Nat) (hr : r ≤ n) (hn : n ≤ 1200) : Ckms.Fq k r n ≤ 768 := by
  unfold Ckms.Fq
  rcases Ckms.k_cases h1 h2 with h | h | h | h | h | h | h | h | h | h | h | h | h | h | h <;> subst h <;> split <;> omega
theorem wholeOf_between {x c : Nat} (h1 : FP 0 c ≤ x) (h2 : x ≤ FP 20 (2 ^ 20 * (c + 1) - 1)) (hc : c < 2 ^ 30) : wholeOf x = c := by
  have a := rungVal_mono h1
  have b := rungVal_mono h2
  have ea := (FP_spec (p := 0) (j := c) (by omega) (by omega)).2
  have eb := (FP_spec (p := 20) (j := 2 ^ 20 * (c + 1) - 1) (by omega) (by omega)).2
  rw [Nat.pow_zero, Nat.mul_one] at ea
  rw [ea] at a
  have hp := Nat.two_pow_pos E74
  have b' : rungVal x < (c + 1) * 2 ^ E74 := by
    refine Nat.lt_of_mul_lt_mul_right (a := 2 ^ 20) ?_
    refine Nat.lt_of_le_of_lt (Nat.mul_le_mul_right _ b) ?_
    rw [eb]
    have e : (c + 1) * 2 ^ E74 * 2 ^ 20 = 2 ^ 20 * (c + 1) * 2 ^ E74 := by ac_rfl
    rw [e]
    exact Nat.mul_lt_mul_of_pos_right (by omega) hp
  unfold wholeOf
  rw [Nat.div_eq_iff hp]
  rw [Nat.add_mul, Nat.one_mul] at b'
  constructor
  · exact a
  · omega
end
end Go.Proofs.Ythcgojhfbcgaiaa
