/- The digest in memory, over the steps of process. Plain lemmas on worlds. The limits that process reckons with. Plain lemmas on floats. -/
import Derived.Test.YthcgojhfbcgaiaaGreatDoorMAV
import Derived.Test.YthcgojhfbcgaiaaGreatDoorMAK
import Derived.Test.YthcgojhfbcgaiaaGreatDoorMAL

namespace Go.Proofs.YthcgojhfbcgaiaaGreatDoor
open Go.RowKit Go.Sort Go.Proofs

/-- Where the digest's parts lie. -/
structure Lo where
  bP : Nat
  cP : Nat
  bU : Nat
  cU : Nat
  oC : Option Addr
  nC : Nat
  cC : Nat
  kC : Nat
def Lo.vP (l : Lo) (n : Nat) : Value := .slice (some ⟨l.bP, 0, none⟩) n l.cP
def Lo.vU (l : Lo) (n : Nat) : Value := .slice (some ⟨l.bU, 0, none⟩) n l.cU
def Lo.vC (l : Lo) : Value := .slice l.oC l.nC l.cC

/-- The digest, between two steps. -/
structure PM (S : List Nat) (w0 w : World) (base g c : Nat) (l : Lo) (P U : List Cen) (X : List Nat) (pw uw mn mx : Nat) : Prop where
  hd : DgAt w g c (.slice (some ⟨l.bP, 0, none⟩) P.length l.cP) (.slice (some ⟨l.bU, 0, none⟩) U.length l.cU) (.slice l.oC l.nC l.cC) (FI pw) (FI uw) mn mx
  rP : CRow w l.bP l.cP P
  rU : CRow w l.bU l.cU U
  rC : (l.oC = none ∧ l.cC = 0 ∧ l.nC = 0 ∧ X = [] ∧ l.kC = g) ∨ (l.oC = some ⟨l.kC, 0, none⟩ ∧ FRow w l.kC l.cC X ∧ l.nC = X.length ∧ base ≤ l.kC)
  ne : l.bP ≠ l.bU
  ge : base ≤ g ∧ base ≤ l.bP ∧ base ≤ l.bU ∧ base ≤ w.heap.size
  bel : RowKit.Below base w0 w
  fr : Fr S w0 w
  inS : ∀ b ∈ [g, l.bP, l.bU, l.kC], b ∈ S ∨ w0.heap.size ≤ b
theorem tD_C : (58 : Nat) ≠ 49 := by decide
theorem tD_F : (58 : Nat) ≠ 29 := by decide
theorem tC_F : (49 : Nat) ≠ 29 := by decide
section
variable {S : List Nat} {w0 w : World} {base g c : Nat} {l : Lo} {P U : List Cen} {X : List Nat} {pw uw mn mx : Nat}
theorem PM.gP (h : PM S w0 w base g c l P U X pw uw mn mx) : g ≠ l.bP := by
  obtain ⟨cur, h1, _⟩ := h.rP.row
  exact ne_ty h.hd h1 tD_C
theorem PM.gU (h : PM S w0 w base g c l P U X pw uw mn mx) : g ≠ l.bU := by
  obtain ⟨cur, h1, _⟩ := h.rU.row
  exact ne_ty h.hd h1 tD_C
theorem PM.drewN (h : PM S w0 w base g c l P U X pw uw mn mx) (d : Nat) : PM S w0 (w.drewN d) base g c l P U X pw uw mn mx :=
  ⟨h.hd, h.rP.drewN d, h.rU.drewN d, h.rC.imp id fun ⟨a, b, r⟩ => ⟨a, b.drewN d, r⟩, h.ne, h.ge, below_drewN h.bel d, h.fr.drewN d, h.inS⟩
theorem PM.drew (h : PM S w0 w base g c l P U X pw uw mn mx) : PM S w0 w.drew base g c l P U X pw uw mn mx := h.drewN 1
theorem PM.alloc (h : PM S w0 w base g c l P U X pw uw mn mx) (o : Obj) : PM S w0 (w.alloc o) base g c l P U X pw uw mn mx :=
  ⟨at_alloc _ h.hd, h.rP.alloc o, h.rU.alloc o, h.rC.imp id fun ⟨a, b, r⟩ => ⟨a, b.alloc o, r⟩, h.ne, ⟨h.ge.1, h.ge.2.1, h.ge.2.2.1, by have := h.ge.2.2.2; simp; omega⟩, h.bel.alloc h.ge.2.2.2 o, h.fr.alloc o, h.inS⟩
theorem PM.rCfar (h : PM S w0 w base g c l P U X pw uw mn mx) {w' : World} (hk : ∀ cC', FRow w l.kC cC' X → w'.heap[l.kC]? = w.heap[l.kC]?) :
    (l.oC = none ∧ l.cC = 0 ∧ l.nC = 0 ∧ X = [] ∧ l.kC = g) ∨ (l.oC = some ⟨l.kC, 0, none⟩ ∧ FRow w' l.kC l.cC X ∧ l.nC = X.length ∧ base ≤ l.kC) :=
  h.rC.imp id fun ⟨a, b, r⟩ => ⟨a, b.block (hk _ b), r⟩
theorem FRow.ne {w : World} {k cC b : Nat} {X : List Nat} {cur : Array Value} {t : TypeId} (h : FRow w k cC X) (hb : w.heap[b]? = some (.cells cur t)) (ht : t ≠ 29) : b ≠ k := by
  obtain ⟨c2, h2, _⟩ := h.row
  exact ne_ty hb h2 ht
/-- A field of the digest is turned. -/
theorem PM.field (h : PM S w0 w base g c l P U X pw uw mn mx) (i : Nat) (v : Value) {P' U' : List Cen} {pw' uw' mn' mx' : Nat}
    (he : (dgV c (.slice (some ⟨l.bP, 0, none⟩) P.length l.cP) (.slice (some ⟨l.bU, 0, none⟩) U.length l.cU) (.slice l.oC l.nC l.cC) (FI pw) (FI uw) mn mx).setIfInBounds i v =
      dgV c (.slice (some ⟨l.bP, 0, none⟩) P'.length l.cP) (.slice (some ⟨l.bU, 0, none⟩) U'.length l.cU) (.slice l.oC l.nC l.cC) (FI pw') (FI uw') mn' mx')
    (hP : CRow w l.bP l.cP P') (hU : CRow w l.bU l.cU U') : PM S w0 (w.setCell ⟨g, i, none⟩ v) base g c l P' U' X pw' uw' mn' mx' := by
  refine ⟨?_, hP.far (by exact h.gP) _, hU.far (by exact h.gU) _, h.rCfar fun cC' hF => ?_, h.ne, ⟨h.ge.1, h.ge.2.1, h.ge.2.2.1, by have := h.ge.2.2.2; simp [World.setCell]; omega⟩, h.bel.setCell (p := ⟨g, i, none⟩) h.ge.1 _, h.fr.set (a := ⟨g, i, none⟩) (h.inS g (by simp)) _, h.inS⟩
  · have := at_set h.hd i v
    rw [he] at this
    exact this
  · obtain ⟨cur, h1, _⟩ := hF.row
    rw [h1]
    exact at_set_other _ (by exact hF.ne h.hd tD_F) h1
theorem PM.setPw (h : PM S w0 w base g c l P U X pw uw mn mx) (x : Nat) : PM S w0 (w.setCell ⟨g, 6, none⟩ (.float .f64 (FI x))) base g c l P U X x uw mn mx := h.field 6 _ rfl h.rP h.rU
theorem PM.setUw (h : PM S w0 w base g c l P U X pw uw mn mx) (x : Nat) : PM S w0 (w.setCell ⟨g, 7, none⟩ (.float .f64 (FI x))) base g c l P U X pw x mn mx := h.field 7 _ rfl h.rP h.rU
theorem PM.setMn (h : PM S w0 w base g c l P U X pw uw mn mx) (x : Nat) : PM S w0 (w.setCell ⟨g, 8, none⟩ (.float .f64 x)) base g c l P U X pw uw x mx := h.field 8 _ rfl h.rP h.rU
theorem PM.setMx (h : PM S w0 w base g c l P U X pw uw mn mx) (x : Nat) : PM S w0 (w.setCell ⟨g, 9, none⟩ (.float .f64 x)) base g c l P U X pw uw mn x := h.field 9 _ rfl h.rP h.rU
theorem PM.clearP (h : PM S w0 w base g c l P U X pw uw mn mx) : PM S w0 (w.setCell ⟨g, 3, none⟩ (.slice (some ⟨l.bP, 0, none⟩) 0 l.cP)) base g c l [] U X pw uw mn mx := h.field 3 _ rfl h.rP.emp h.rU
theorem PM.clearU (h : PM S w0 w base g c l P U X pw uw mn mx) : PM S w0 (w.setCell ⟨g, 4, none⟩ (.slice (some ⟨l.bU, 0, none⟩) 0 l.cU)) base g c l P [] X pw uw mn mx := h.field 4 _ rfl h.rP h.rU.emp
/-- The last centroid is turned. -/
theorem PM.turnP (h : PM S w0 w base g c l P U X pw uw mn mx) (i : Nat) (hi : i < P.length) (x : Cen) :
    PM S w0 ((w.setCell ⟨l.bP, i * 2 + 1, none⟩ (.float .f64 (FI x.w))).setCell ⟨l.bP, i * 2, none⟩ (.float .f64 x.m)) base g c l (P.set i x) U X pw uw mn mx := by
  refine ⟨?_, h.rP.turn i hi x, (h.rU.far (by exact h.ne) _).far (by exact h.ne) _, h.rCfar fun cC' hF => ?_, h.ne, ⟨h.ge.1, h.ge.2.1, h.ge.2.2.1, by have := h.ge.2.2.2; simp [World.setCell]; omega⟩,
    (h.bel.setCell (p := ⟨l.bP, i * 2 + 1, none⟩) h.ge.2.1 _).setCell (p := ⟨l.bP, i * 2, none⟩) h.ge.2.1 _,
    (h.fr.set (a := ⟨l.bP, i * 2 + 1, none⟩) (h.inS l.bP (by simp)) _).set (a := ⟨l.bP, i * 2, none⟩) (h.inS l.bP (by simp)) _, h.inS⟩
  · rw [List.length_set]
    exact at_set_other _ (by exact Ne.symm h.gP) (at_set_other _ (by exact Ne.symm h.gP) h.hd)
  · obtain ⟨cur, h1, _⟩ := hF.row
    obtain ⟨cur2, h2, _⟩ := h.rP.row
    have hne := hF.ne h2 tC_F
    rw [h1]
    exact at_set_other _ (by exact hne) (at_set_other _ (by exact hne) h1)
theorem grown_blk {w w' : World} {row : Option Nat} (hg : w.grownBy w' row) {b : Nat} (hb : b < w.heap.size) (hne : some b ≠ row) : w'.heap[b]? = w.heap[b]? := hg.block b hb hne
/-- An append to the unprocessed. -/
theorem PM.putU (h : PM S w0 w base g c l P U X pw uw mn mx) {w1 : World} {b cap : Nat} {U' : List Cen} (hg : w.grownBy w1 (some l.bU)) (hb : b = l.bU ∨ w.heap.size ≤ b)
    (ho : w1.ownsRow base 49 2 (.slice (some ⟨b, 0, none⟩) U'.length cap) U'.length (flatC U')) :
    PM S w0 (w1.setCell ⟨g, 4, none⟩ (.slice (some ⟨b, 0, none⟩) U'.length cap)) base g c { l with bU := b, cU := cap } P U' X pw uw mn mx := by
  obtain ⟨hr, hbb⟩ := CRow.of_own ho rfl
  have hgl := lt_of_at h.hd
  have hpl := h.rP.lt
  have hgU := h.gU
  have e1 : w1.heap[g]? = _ := (grown_blk hg hgl (by intro e; injection e with e; exact hgU e)).trans h.hd
  have hgb : g ≠ b := by
    rcases hb with rfl | hb
    · exact hgU
    · omega
  refine ⟨at_set e1 4 _, (h.rP.grown hg (by intro e; injection e with e; exact h.ne e)).far (by exact h.gP) _, hr.far (by exact hgb) _, h.rCfar fun cC' hF => ?_, ?_, ⟨h.ge.1, h.ge.2.1, hbb, ?_⟩, ?_, ?_, ?_⟩
  · obtain ⟨cur, h1, _⟩ := hF.row
    obtain ⟨cur2, h2, _⟩ := h.rU.row
    rw [h1]
    refine at_set_other _ (by exact hF.ne h.hd tD_F) ?_
    exact (grown_blk hg (lt_of_at h1) (by intro e; injection e with e; exact hF.ne h2 tC_F e.symm)).trans h1
  · show l.bP ≠ b
    rcases hb with rfl | hb
    · exact h.ne
    · omega
  · have := h.ge.2.2.2; have := hg.size; simp [World.setCell]; omega
  · exact (h.bel.grown hg h.ge.2.2.2 (fun q hq => by injection hq with hq; subst hq; exact h.ge.2.2.1)).setCell (p := ⟨g, 4, none⟩) h.ge.1 _
  · exact (h.fr.grown hg (fun q hq => by injection hq with hq; subst hq; exact h.inS _ (by simp))).set (a := ⟨g, 4, none⟩) (h.inS g (by simp)) _
  · intro q hq
    simp only [List.mem_cons, List.not_mem_nil, or_false] at hq
    rcases hq with rfl | rfl | rfl | rfl
    · exact h.inS _ (by simp)
    · exact h.inS _ (by simp)
    · rcases hb with rfl | hb
      · exact h.inS _ (by simp)
      · right; have := h.fr.size; omega
    · exact h.inS _ (by simp)
/-- An append to the processed. -/
theorem PM.putP (h : PM S w0 w base g c l P U X pw uw mn mx) {w1 : World} {b cap : Nat} {P' : List Cen} (hg : w.grownBy w1 (some l.bP)) (hb : b = l.bP ∨ w.heap.size ≤ b)
    (ho : w1.ownsRow base 49 2 (.slice (some ⟨b, 0, none⟩) P'.length cap) P'.length (flatC P')) :
    PM S w0 (w1.setCell ⟨g, 3, none⟩ (.slice (some ⟨b, 0, none⟩) P'.length cap)) base g c { l with bP := b, cP := cap } P' U X pw uw mn mx := by
  obtain ⟨hr, hbb⟩ := CRow.of_own ho rfl
  have hgl := lt_of_at h.hd
  have hpl := h.rU.lt
  have hgP := h.gP
  have e1 : w1.heap[g]? = _ := (grown_blk hg hgl (by intro e; injection e with e; exact hgP e)).trans h.hd
  have hgb : g ≠ b := by
    rcases hb with rfl | hb
    · exact hgP
    · omega
  refine ⟨at_set e1 3 _, hr.far (by exact hgb) _, (h.rU.grown hg (by intro e; injection e with e; exact h.ne e.symm)).far (by exact h.gU) _, h.rCfar fun cC' hF => ?_, ?_, ⟨h.ge.1, hbb, h.ge.2.2.1, ?_⟩, ?_, ?_, ?_⟩
  · obtain ⟨cur, h1, _⟩ := hF.row
    obtain ⟨cur2, h2, _⟩ := h.rP.row
    rw [h1]
    refine at_set_other _ (by exact hF.ne h.hd tD_F) ?_
    exact (grown_blk hg (lt_of_at h1) (by intro e; injection e with e; exact hF.ne h2 tC_F e.symm)).trans h1
  · show b ≠ l.bU
    rcases hb with rfl | hb
    · exact h.ne
    · omega
  · have := h.ge.2.2.2; have := hg.size; simp [World.setCell]; omega
  · exact (h.bel.grown hg h.ge.2.2.2 (fun q hq => by injection hq with hq; subst hq; exact h.ge.2.1)).setCell (p := ⟨g, 3, none⟩) h.ge.1 _
  · exact (h.fr.grown hg (fun q hq => by injection hq with hq; subst hq; exact h.inS _ (by simp))).set (a := ⟨g, 3, none⟩) (h.inS g (by simp)) _
  · intro q hq
    simp only [List.mem_cons, List.not_mem_nil, or_false] at hq
    rcases hq with rfl | rfl | rfl | rfl
    · exact h.inS _ (by simp)
    · rcases hb with rfl | hb
      · exact h.inS _ (by simp)
      · right; have := h.fr.size; omega
    · exact h.inS _ (by simp)
    · exact h.inS _ (by simp)
/-- The unprocessed, sorted. -/
theorem PM.sorted (h : PM S w0 w base g c l P U X pw uw mn mx) {d : Array Cen} {k : Nat} {os : Array Obj} (hs : d.size = U.length) (hv : ∀ x ∈ d.toList, x.m < 2047 * 2 ^ 52) :
    PM S w0 (Sort.grow (putRowK encS 2 (Sort.ahead w k) l.bU 0 d) os) base g c l P d.toList X pw uw mn mx := by
  have hgl := lt_of_at h.hd
  have hpl := h.rP.lt
  have hul := h.rU.lt
  have hsz : (putRowK encS 2 (Sort.ahead w k) l.bU 0 d).heap.size = w.heap.size := size_putRowK _ _ _ _ _ _
  have blk : ∀ b, b < w.heap.size → b ≠ l.bU → (Sort.grow (putRowK encS 2 (Sort.ahead w k) l.bU 0 d) os).heap[b]? = w.heap[b]? := fun b hb hne => by
    rw [Sort.heap_grow_old _ _ (by rw [hsz]; exact hb)]
    show ((Sort.ahead w k).heap.modify l.bU _)[b]? = _
    rw [Array.getElem?_modify, if_neg (Ne.symm hne)]
    rfl
  refine ⟨?_, h.rP.block (blk _ hpl h.ne), ?_, h.rCfar fun cC' hF => ?_, h.ne, ⟨h.ge.1, h.ge.2.1, h.ge.2.2.1, ?_⟩, ?_, ?_, h.inS⟩
  · show _ = _
    rw [blk g hgl h.gU, show d.toList.length = U.length by simpa using hs]
    exact h.hd
  · obtain ⟨cur, h1, h2, h3⟩ := h.rU.row
    have hle := h.rU.le
    refine ⟨⟨putCells id 0 (flatK encS 2 d) cur, ?_, by simp [putCells, h2], ?_⟩, by simp [hs]; exact hle, h.rU.mx⟩
    · rw [Sort.heap_grow_old _ _ (by rw [hsz]; exact hul)]
      simp [putRowK, putRow, mapBlock, Array.getElem?_modify, onCells]
      exact ⟨_, h1, rfl⟩
    · apply List.ext_getElem?
      intro t
      rcases Nat.lt_or_ge t (d.toList.length * 2) with ht | ht
      · have hd2 : d.toList.length = d.size := by simp
        rw [List.getElem?_take_of_lt ht, Array.getElem?_toList]
        have hcl : t < cur.size := by omega
        have hi : t / 2 < d.toList.length := by omega
        have ef := flatC_at d.toList (t / 2) hi
        have e1 : (putCells id 0 (flatK encS 2 d) cur)[t]? = some ((flatK encS 2 d)[t]!) := by
          rw [Array.getElem?_eq_getElem (by simp [putCells]; exact hcl)]
          simp only [putCells, Array.getElem_mapIdx]
          rw [if_pos ⟨Nat.zero_le _, by rw [size_flatK]; omega⟩, Nat.sub_zero]; rfl
        rw [e1, get_flatK _ _ _ _ (by omega)]
        have em : d[t / 2]! = d.toList[t / 2] := by rw [getElem!_pos d (t / 2) (by omega)]; simp
        rw [em, encS_of (hv _ (List.getElem_mem hi))]
        rcases Nat.mod_two_eq_zero_or_one t with hm | hm
        · rw [show t / 2 * 2 = t by omega] at ef
          rw [hm, ef.1]; rfl
        · rw [show t / 2 * 2 + 1 = t by omega] at ef
          rw [hm, ef.2]; rfl
      · rw [List.getElem?_eq_none (by rw [List.length_take]; omega), List.getElem?_eq_none (by rw [flatC_len]; exact ht)]
  · obtain ⟨cur, h1, _⟩ := hF.row
    obtain ⟨cur2, h2, _⟩ := h.rU.row
    exact blk _ (lt_of_at h1) (fun e => hF.ne h2 tC_F e.symm)
  · have := h.ge.2.2.2
    simp [Sort.grow]; rw [hsz]; omega
  · have hb := h.bel
    refine ⟨hb.os, hb.tape, hb.output, ?_, fun k' hk => ?_⟩
    · have := hb.size; simp [Sort.grow]; rw [hsz]; omega
    · rw [← hb.block k' hk]
      have := h.ge
      exact blk k' (by omega) (by omega)
  · refine h.fr.sub (T := [l.bU]) ⟨?_, fun b hb hs => blk b hb (by simpa using hs)⟩ (fun b hb => ?_)
    · simp [Sort.grow]; rw [hsz]; omega
    · simp only [List.mem_singleton] at hb
      subst hb
      exact h.inS _ (by simp)
end
end Go.Proofs.YthcgojhfbcgaiaaGreatDoor

namespace Go.Proofs.YthcgojhfbcgaiaaGreatDoor
open Go.RowKit Go.Proofs Ieee

def oneW : Nat := 4607182418800017408
/-- The first limit. -/
def lim0 (c W : Nat) : Nat := match iqM (FI c) oneW with
  | none => 0
  | some q => (Ieee.double.mul (FI W) q).getD 0
/-- The limit behind a new centroid. -/
def limN (c W s : Nat) : Nat := match Ieee.double.div (FI s) (FI W) with
  | none => 0
  | some q => match ilM (FI c) q with
    | none => 0
    | some k => match Ieee.double.add k oneW with
      | none => 0
      | some k1 => match iqM (FI c) k1 with
        | none => 0
        | some r => (Ieee.double.mul (FI W) r).getD 0
theorem oneW_mi : Mi oneW 1 := mi_const (c := 4607182418800017408) (n := 1) (by decide +kernel)
/-- A part of a whole is at most one. -/
theorem part_le {s W : Nat} (h : s ≤ W) (hW : 1 ≤ W) (hW2 : W ≤ 2 ^ 20) : ∃ q, Ieee.double.div (FI s) (FI W) = some q ∧ q ≤ FI 1 := by
  have p0 : FI W ≠ 0 := by have := FI_pos (n := W) hW (by omega); omega
  obtain ⟨R, h1, h2, _⟩ := div_spec (FI_in s (by omega)) (FI_in W (by omega)) p0
  have i1 := FI_in 1 (by omega)
  have hR := h2 (FI 1) (by
    show rungVal (floatOfInt .f64 (s : Int)) * E ≤ rungVal (floatOfInt .f64 ((1 : Nat) : Int)) * rungVal (floatOfInt .f64 (W : Int))
    rw [rungVal_FI s (by omega), rungVal_FI 1 (by omega), rungVal_FI W (by omega), Nat.one_mul, Nat.mul_comm]
    exact Nat.mul_le_mul_left _ (Nat.mul_le_mul_right _ h))
  exact ⟨_, h1, by omega⟩
theorem W_mp {W : Nat} (h : W ≤ 2 ^ 20) : Mp (FI W) 20 := (Mi_FI W (by omega)).toMp h
theorem lim0_ok {c W r : Nat} (hW : W ≤ 2 ^ 20) (h : iqM (FI c) oneW = some r) (hr : Mp r 901) : Ieee.double.mul (FI W) r = some (lim0 c W) ∧ Mp (lim0 c W) 921 := by
  obtain ⟨l, h1, h2⟩ := mp_mul (W_mp hW) hr (by omega)
  have e : lim0 c W = l := by unfold lim0; rw [h]; simp only [h1, Option.getD_some]
  rw [e]; exact ⟨h1, h2⟩
theorem limN_ok {c W s q k k1 r : Nat} (hW : W ≤ 2 ^ 20) (h1 : Ieee.double.div (FI s) (FI W) = some q) (h2 : ilM (FI c) q = some k) (h3 : Ieee.double.add k oneW = some k1) (h4 : iqM (FI c) k1 = some r) (hr : Mp r 901) :
    Ieee.double.mul (FI W) r = some (limN c W s) ∧ Mp (limN c W s) 921 := by
  obtain ⟨l, e1, e2⟩ := mp_mul (W_mp hW) hr (by omega)
  have e : limN c W s = l := by
    unfold limN
    rw [h1]; simp only []
    rw [h2]; simp only []
    rw [h3]; simp only []
    rw [h4]; simp only []
    rw [e1]; rfl
  rw [e]; exact ⟨e1, e2⟩
theorem k1_ok {c k : Nat} (hc : 1 ≤ c) (hc2 : c ≤ 1000) (h : Mi k (c * 100022)) : ∃ k1, Ieee.double.add k oneW = some k1 ∧ Mi k1 (c * 200000) := by
  obtain ⟨k1, h1, h2⟩ := mi_add h oneW_mi (by omega)
  exact ⟨k1, h1, h2.mono (by omega)⟩
theorem leF_order {x l : Nat} (hx : x < 2047 * 2 ^ 52) (hl : Mp l 921) : ∃ o, FloatKind.f64.format.order x l = some o := order_some (Mg.pos hx) hl
end Go.Proofs.YthcgojhfbcgaiaaGreatDoor
