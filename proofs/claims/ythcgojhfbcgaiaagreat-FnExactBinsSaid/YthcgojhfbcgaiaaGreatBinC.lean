/- A histogram in memory; Push, Len. Conditions: the histogram lies in memory. -/
import Derived.Test.YthcgojhfbcgaiaaGreatBinB
import Derived.Deep.AppendLies
namespace Go.Proofs.YthcgojhfbcgaiaaGreat
open Go.RowKit Go.Proofs

abbrev PBin := Nat × Bn.B
def ptrs (PL : List PBin) : List Value := PL.map fun x => .pointer (some ⟨x.1, 0, none⟩)
/-- The histogram: H its head, R its reservoir, v the slice of its bins, PL the bins' blocks and what they hold. -/
structure Res (w : World) (base H R most n : Nat) (v : Value) (PL : List PBin) : Prop where
  hH : w.heap[H]? = some (.cells #[.pointer (some ⟨R, 0, none⟩)] 55)
  hR : w.heap[R]? = some (.cells #[.int .i64 n, .int .i64 most, v] 58)
  own : w.ownsRow base 42 1 v PL.length (ptrs PL)
  bins : ∀ x ∈ PL, BinAt w x.1 x.2.c x.2.s
  nod : (PL.map (·.1)).Nodup
  lt : base ≤ H ∧ base ≤ R ∧ ∀ x ∈ PL, base ≤ x.1
  sz : base ≤ w.heap.size

theorem ne_of_types {w : World} {a b : Nat} {c d : Array Value} {s t : TypeId} (h1 : w.heap[a]? = some (.cells c s)) (h2 : w.heap[b]? = some (.cells d t)) (hst : s ≠ t) : a ≠ b := fun e => by
  subst e; rw [h1] at h2; injection h2 with h2; injection h2 with _ h3; exact hst h3
theorem tH_R : (55 : Nat) ≠ 58 := by decide
theorem tH_P : (55 : Nat) ≠ 42 := by decide
theorem tR_P : (58 : Nat) ≠ 42 := by decide
theorem tB_P : (44 : Nat) ≠ 42 := by decide
theorem tB_H : (44 : Nat) ≠ 55 := by decide
theorem tB_R : (44 : Nat) ≠ 58 := by decide

section
variable {w : World} {base H R most n : Nat} {v : Value} {PL : List PBin}
/-- The row's block, opened. -/
theorem Res.row (h : Res w base H R most n v PL) : (v = .slice none 0 0 ∧ PL = []) ∨ ∃ g cap cur, v = .slice (some ⟨g, 0, none⟩) PL.length cap ∧ base ≤ g ∧ w.heap[g]? = some (.cells cur 42) ∧ PL.length ≤ cap ∧ cap ≤ maxLen ∧ cur.size = cap ∧ cur.toList.take PL.length = ptrs PL := by
  rcases h.own.2 with ⟨h1, h2⟩ | ⟨g, cap, cur, h1, h2, h3, h4, h5, h6, h7⟩
  · exact .inl ⟨h1, List.eq_nil_of_length_eq_zero h2⟩
  · exact .inr ⟨g, cap, cur, h1, h2, h3, h4, h5, by omega, by rw [Nat.mul_one] at h7; exact h7⟩
theorem Res.slice (h : Res w base H R most n v PL) : ∃ oa oc, v = .slice oa PL.length oc := by
  rcases h.row with ⟨h1, h2⟩ | ⟨g, cap, cur, h1, _⟩
  · subst h2; exact ⟨_, _, h1⟩
  · exact ⟨_, _, h1⟩
theorem Res.drewN (h : Res w base H R most n v PL) (d : Nat) : Res (w.drewN d) base H R most n v PL := ⟨h.hH, h.hR, h.own, h.bins, h.nod, h.lt, h.sz⟩
theorem Res.alloc (h : Res w base H R most n v PL) (o : Obj) : Res (w.alloc o) base H R most n v PL :=
  ⟨at_alloc _ h.hH, at_alloc _ h.hR, h.own.alloc o, fun x hx => at_alloc _ (h.bins x hx), h.nod, h.lt, by simp; have := h.sz; omega⟩
/-- What is not the row's block. -/
theorem Res.farP (h : Res w base H R most n v PL) {b : Nat} {c : Array Value} {t : TypeId} (hb : w.heap[b]? = some (.cells c t)) (ht : t ≠ 42) : some b ≠ v.ownBlock := fun e => by
  rcases h.row with ⟨h1, _⟩ | ⟨g, cap, cur, h1, _, h3, _⟩
  · rw [h1] at e; cases e
  · rw [h1] at e
    have : b = g := by simpa [Value.ownBlock] using e
    exact ne_of_types hb h3 ht this
theorem own_set_farB {top n : Nat} {xs : List Value} (h : w.ownsRow top 42 1 v n xs) {a : Addr} (ha : some a.block ≠ v.ownBlock) (u : Value) : (w.setCell a u).ownsRow top 42 1 v n xs := by
  rcases h.2 with ⟨h1, h2⟩ | ⟨g, cap, cur, h1, h2, h3, h4⟩
  · exact ⟨h.1, .inl ⟨h1, h2⟩⟩
  · refine ⟨h.1, .inr ⟨g, cap, cur, h1, h2, ?_, h4⟩⟩
    subst h1
    exact at_set_other u (fun e => ha (by rw [e]; rfl)) h3
theorem grown_atB {w' : World} {row : Option Nat} (hg : w.grownBy w' row) {b : Nat} {o : Obj} (hb : w.heap[b]? = some o) (hne : some b ≠ row) : w'.heap[b]? = some o := by
  rw [hg.block b (lt_of_at hb) hne]; exact hb
/-- The count of all. -/
theorem Res.setN (h : Res w base H R most n v PL) (m : Nat) : Res (w.setCell ⟨R, 0, none⟩ (.int .i64 (m : Int))) base H R most m v PL :=
  ⟨at_set_other _ (by exact (ne_of_types h.hH h.hR tH_R).symm) h.hH, at_set h.hR 0 _, own_set_farB h.own (h.farP h.hR tR_P) _, fun x hx => at_set_other _ (by exact (ne_of_types (h.bins x hx) h.hR tB_R).symm) (h.bins x hx), h.nod, h.lt, by have := h.sz; simp [World.setCell]; omega⟩
/-- A new slice for the bins, behind an append to the elder one. -/
theorem Res.put (h : Res w base H R most n v PL) {w' : World} (hg : w.grownBy w' v.ownBlock) {v' : Value} {PL' : List PBin} (ho : w'.ownsRow base 42 1 v' PL'.length (ptrs PL'))
    (hb : ∀ x ∈ PL', BinAt w x.1 x.2.c x.2.s) (hn : (PL'.map (·.1)).Nodup) (hl : ∀ x ∈ PL', base ≤ x.1) : Res (w'.setCell ⟨R, 2, none⟩ v') base H R most n v' PL' := by
  have e1 := grown_atB hg h.hH (h.farP h.hH tH_P)
  have e2 := grown_atB hg h.hR (h.farP h.hR tR_P)
  have e3 : ∀ x ∈ PL', BinAt w' x.1 x.2.c x.2.s := fun x hx => grown_atB hg (hb x hx) (h.farP (hb x hx) tB_P)
  refine ⟨at_set_other _ (by exact (ne_of_types e1 e2 tH_R).symm) e1, at_set e2 2 _, own_set_farB ho (fun e => ?_) _, fun x hx => at_set_other _ (by exact (ne_of_types (e3 x hx) e2 tB_R).symm) (e3 x hx), hn, ⟨h.lt.1, h.lt.2.1, hl⟩, by have := h.sz; have := hg.size; simp [World.setCell]; omega⟩
  rcases ho.2 with ⟨h1, _⟩ | ⟨g, cap, cur, h1, _, h3, _⟩
  · rw [h1] at e; cases e
  · rw [h1] at e
    have : R = g := by simpa [Value.ownBlock] using e
    exact ne_of_types e2 h3 tR_P this
end

theorem info_PB : (Tryz.prog.info? 42).map (fun i => (i.zero, i.size, i.bytes)) = some (some (.pointer none), 1, 8) := by kernel_rfl

set_option maxRecDepth 100000 in
set_option maxHeartbeats 1000000 in
theorem push_calls {w w0 : World} {base H R most n b c s : Nat} {v : Value} {PL : List PBin} (h : Res w base H R most n v PL) (hB : RowKit.Below base w0 w) (hb : BinAt w b c s) (hbb : base ≤ b) (hbn : b ∉ PL.map (·.1)) (hl : PL.length ≤ 1000) :
    Calls Tryz.prog 124 #[.pointer (some ⟨R, 2, none⟩), .iface 42 (.pointer (some ⟨b, 0, none⟩))] w fun e w' => e = .returned (.tuple #[]) ∧
      ∃ v', Res w' base H R most n v' (PL ++ [(b, ⟨c, s⟩)]) ∧ RowKit.Below base w0 w' := by
  obtain ⟨oa, oc, rfl⟩ := h.slice
  obtain ⟨ln, hln⟩ : ∃ ln, ln = PL.length := ⟨_, rfl⟩
  obtain ⟨i0, hi, hz0, hz1, hz2⟩ := info_parts info_PB
  have t0 : w.cell? ⟨R, 2, none⟩ = some (.slice oa ln oc) := by rw [hln]; exact cell_of h.hR rfl
  obtain ⟨O, hO⟩ : ∃ O : Obj, O = .cells #[.pointer (some ⟨b, 0, none⟩)] 42 := ⟨_, rfl⟩
  have hA : Res (w.alloc O).drew base H R most n (.slice oa PL.length oc) PL := (h.alloc O).drewN 1
  have hAb : BinAt (w.alloc O).drew b c s := at_alloc _ hb
  have hta : ∀ w, (Instr.typeAssert (.iface 42 (.pointer (some ⟨b, 0, none⟩))) 20 42 false).run Tryz.prog w = .ok (.pointer (some ⟨b, 0, none⟩)) w := fun w => by kernel_rfl
  have hown : Hid ((w.alloc O).drew.ownsRow base 42 1 (.slice oa ln oc) ln (ptrs PL)) := Lib.hid (by rw [hln]; exact hA.own)
  have t1 : (w.alloc O).cell? ⟨R, 2, none⟩ = some (.slice oa ln oc) := by rw [hln]; exact cell_of hA.hR rfl
  have hnews : Hid (∀ i u, [Value.pointer (some ⟨b, 0, none⟩)][i]? = some u → (w.alloc O).drew.cell? ((⟨w.heap.size, 0, none⟩ : Addr).add i) = some u) := Lib.hid fun i u hu => by
    rw [Addr.add_lit, hO]
    refine cell_of (hp_at w _ _ rfl) ?_
    rw [Nat.zero_add]; simpa using hu
  have Hyp : Hid (∀ (g cap : Nat) (w1 : World), w1.ownsRow base 42 1 (.slice (some ⟨g, 0, none⟩) (ln + 1) cap) (ln + 1) (ptrs PL ++ [.pointer (some ⟨b, 0, none⟩)]) → (w.alloc O).drew.grownBy w1 (Value.slice oa ln oc).ownBlock →
      w1.frozen? ⟨R, 2, none⟩ = false ∧ w1.cell? ⟨R, 2, none⟩ = some (.slice oa ln oc) ∧ Hid (Res (w1.setCell ⟨R, 2, none⟩ (.slice (some ⟨g, 0, none⟩) (ln + 1) cap)) base H R most n (.slice (some ⟨g, 0, none⟩) (ln + 1) cap) (PL ++ [(b, ⟨c, s⟩)]) ∧ RowKit.Below base w0 (w1.setCell ⟨R, 2, none⟩ (.slice (some ⟨g, 0, none⟩) (ln + 1) cap)))) :=
    Lib.hid fun g cap w1 ho hg => by
      have hg' : (w.alloc O).drew.grownBy w1 (Value.slice oa PL.length oc).ownBlock := by rw [hln] at hg; exact hg
      have e2 := grown_atB hg' hA.hR (hA.farP hA.hR tR_P)
      refine ⟨free_of e2, by rw [hln]; exact cell_of e2 rfl, ?_, ?_⟩
      · refine hA.put (PL' := PL ++ [(b, ⟨c, s⟩)]) hg' ?_ ?_ ?_ ?_
        · have e : ptrs (PL ++ [(b, ⟨c, s⟩)]) = ptrs PL ++ [.pointer (some ⟨b, 0, none⟩)] := by simp [ptrs]
          rw [e, List.length_append, ← hln]; exact ho
        · intro x hx
          rcases List.mem_append.1 hx with hx | hx
          · exact hA.bins x hx
          · simp at hx; subst hx; exact hAb
        · rw [List.map_append]
          refine List.nodup_append.2 ⟨hA.nod, by simp, fun x hx y hy => ?_⟩
          simp at hy; subst hy
          exact fun e => hbn (e ▸ hx)
        · intro x hx
          rcases List.mem_append.1 hx with hx | hx
          · exact hA.lt.2.2 x hx
          · simp at hx; subst hx; exact hbb
      · refine (((hB.alloc h.sz O).drew.grown hg' (by have := hA.sz; omega) fun q hq => ?_)).setCell (p := ⟨R, 2, none⟩) h.lt.2.1 _
        exact (hA.own.lt q hq).1
  have hbase : Hid (base ≤ (w.alloc O).drew.heap.size) := Lib.hid hA.sz
  subst hO
  have hlni : (ln : Int) ≤ 1000 := by omega
  have Hl : Hid (ln ≤ 1000) := Lib.hid (by omega)
  clear h hA hAb hb hbn hl hln hB
  go_enter Tryz.func124, Tryz.ntmps124
  go_wp2_with fail
  go_region_law (refine step_append_lies _ rfl (.tmp 7) (.tmp 10) 40 rfl base 42 i0 _ 1 8 Tryz.underlying40 hi hz0 hz1 hz2 rfl (by decide) (.slice oa ln oc) ln _ (by simp [Act.eval]) hown.out ⟨w.heap.size, 0, none⟩ 1 1 _ (by simp [Act.eval]) rfl hnews.out (by intro u hu; simp at hu; rcases hu with rfl; rfl) (by decide) (by have := Hl.out; unfold maxLen; omega) (by have := Hl.out; omega) hbase.out _ rfl ?_; intro g cap w1 hown1 hgrow hat hlt; obtain ⟨y1, y2, y3⟩ := Hyp.out g cap w1 hown1 hgrow; clear hown1 hgrow hat hlt)
  all_goals
    go_wp2_with fail
    go_end0
    exact ⟨rfl, _, y3.out⟩
end Go.Proofs.YthcgojhfbcgaiaaGreat
