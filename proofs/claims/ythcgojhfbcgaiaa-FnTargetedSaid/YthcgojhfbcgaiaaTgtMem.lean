/- The stream's summary in memory; copy within a row of several-cell elements. -/
import Derived.Test.YthcgojhfbcgaiaaTgtClo
import Derived.Test.YthcgojhfbcgaiaaSpec
import Derived.Laws.IdiomCopy
import Derived.Deep.RegionLaw
namespace Go.Proofs.Ythcgojhfbcgaiaa
open Go.RowKit Go.Sort Go.Proofs

/-- copy OVER ELEMENTS OF k CELLS: all is read before anything is written. -/
theorem run_copy_k {P : Program} (w : World) (dT sT ty elem : TypeId) (k b o dLen dCap : Nat) (a : Addr) (sLen sCap : Nat) (cs : List Value)
    (hu : P.underlying dT = some (.slice elem)) (hs : (P.info? elem).map (·.size) = some k) (hn : cs.length = Nat.min sLen dLen * k)
    (hsrc : ∀ j v, cs[j]? = some v → w.cell? (a.add j) = some v) (hc : ∀ j, j < cs.length → (w.cell? ⟨b, o + j, none⟩).isSome = true) (hf : ∀ j, j < cs.length → w.frozen? ⟨b, o + j, none⟩ = false) (h1 : ∀ v ∈ cs, v.oneCell' = true) :
    (Builtin.copy_ #[dT, sT] ty #[.slice (some ⟨b, o, none⟩) dLen dCap, .slice (some a) sLen sCap]).run P w = .ok (goInt (Nat.min sLen dLen)) (w.setCells b o cs) := by
  have hl := run_loadCells_list (P := P) w a cs hsrc
  have hst := run_storeCells_cells (P := P) b o cs 0 w (by simpa using hc) (by simpa using hf) h1
  cases hq : P.info? elem with
  | none => simp [hq] at hs
  | some i =>
    have hi : i.size = k := by simpa [hq] using hs
    simp [Builtin.copy_, run_underlying hu, Builtin.lenOf, Builtin.firstCells, sizeOf, typeInfo, hq, hi, ← hn, hl, hst]

theorem step_copy_k {P : Program} {ops : Array Oper} {o : Oper} {a : Act} {w : World} {K : Act → World → Prop} {Q : Exit → Act → World → Prop} {E : Prop} (hgd : o.guard = none) (d s : Operand) (dT sT : TypeId)
    (ho : o.op = .call { callee := .builtin .copy, args := #[d, s], argTypes := #[dT, sT] }) (elem : TypeId) (k : Nat) (hu : P.underlying dT = some (.slice elem)) (hsz : (P.info? elem).map (·.size) = some k)
    (b off dLen dCap : Nat) (ad : Addr) (sLen sCap : Nat) (hd : a.eval d = .slice (some ⟨b, off, none⟩) dLen dCap) (hs : a.eval s = .slice (some ad) sLen sCap)
    (cs : List Value) (hn : cs.length = Nat.min sLen dLen * k) (hsrc : ∀ j v, cs[j]? = some v → w.cell? (ad.add j) = some v)
    (hc : ∀ j, j < cs.length → (w.cell? ⟨b, off + j, none⟩).isSome = true) (hf : ∀ j, j < cs.length → w.frozen? ⟨b, off + j, none⟩ = false) (h1 : ∀ v ∈ cs, v.oneCell' = true)
    (h : K (a.put o.dst (goInt (Nat.min sLen dLen))) (w.setCells b off cs)) :
    if Region.wanted o (yielded ops a.tmps) = true then Oper.wp P o a w K Q else E := by
  have hw : Region.wanted o (yielded ops a.tmps) = true := by simp [Region.wanted, hgd]
  rw [if_pos hw]
  have hrun := run_copy_k (P := P) w dT sT o.type elem k b off dLen dCap ad sLen sCap cs hu hsz hn hsrc hc hf h1
  unfold Oper.wp
  simp [execOp, ho, resolve, invoke, builtin, hd, hs, hrun, Result.andThen]
  exact h

theorem wpList_copy_k {P : Program} {ops : Array Oper} {rest : List Oper} {o : Oper} {a : Act} {w : World} {Q : Exit → Act → World → Prop} (hgd : o.guard = none) (d s : Operand) (dT sT : TypeId)
    (ho : o.op = .call { callee := .builtin .copy, args := #[d, s], argTypes := #[dT, sT] }) (elem : TypeId) (k : Nat) (hu : P.underlying dT = some (.slice elem)) (hsz : (P.info? elem).map (·.size) = some k)
    (b off dLen dCap : Nat) (ad : Addr) (sLen sCap : Nat) (hd : a.eval d = .slice (some ⟨b, off, none⟩) dLen dCap) (hs : a.eval s = .slice (some ad) sLen sCap)
    (cs : List Value) (hn : cs.length = Nat.min sLen dLen * k) (hsrc : ∀ j v, cs[j]? = some v → w.cell? (ad.add j) = some v)
    (hc : ∀ j, j < cs.length → (w.cell? ⟨b, off + j, none⟩).isSome = true) (hf : ∀ j, j < cs.length → w.frozen? ⟨b, off + j, none⟩ = false) (h1 : ∀ v ∈ cs, v.oneCell' = true)
    (h : wpList P ops Q rest (a.put o.dst (goInt (Nat.min sLen dLen))) (w.setCells b off cs)) :
    wpList P ops Q (o :: rest) a w := by
  refine wpList_plain hgd fun K hK => ?_
  have hrun := run_copy_k (P := P) w dT sT o.type elem k b off dLen dCap ad sLen sCap cs hu hsz hn hsrc hc hf h1
  unfold Oper.wp
  simp [execOp, ho, resolve, invoke, builtin, hd, hs, hrun, Result.andThen]
  exact hK _ _ h

/-- The cells of a summary. -/
def flatS (L : List SmpF) : List Value := L.flatMap encSmp
theorem flatS_len (L : List SmpF) : (flatS L).length = L.length * 3 := by
  induction L with
  | nil => rfl
  | cons x L ih => simp only [flatS, List.flatMap_cons, List.length_append, List.length_cons] at *; rw [ih, encSmp_len]; omega
theorem flatS_append (L M : List SmpF) : flatS (L ++ M) = flatS L ++ flatS M := by simp [flatS]
theorem flatS_one (x : SmpF) : flatS [x] = encSmp x := by simp [flatS]
theorem flatS_get (L : List SmpF) : ∀ i, i < L.length → ∀ c, c < 3 → (flatS L)[i * 3 + c]? = some (encSmp L[i]!)[c]! := by
  induction L with
  | nil => intro i hi; simp at hi
  | cons x L ih =>
    intro i hi c hc
    have hx : (encSmp x).length = 3 := rfl
    match i with
    | 0 =>
      show (encSmp x ++ flatS L)[0 * 3 + c]? = _
      rw [List.getElem?_append_left (by omega), Nat.zero_mul, Nat.zero_add]
      match c, hc with
      | 0, _ => rfl
      | 1, _ => rfl
      | 2, _ => rfl
    | i + 1 =>
      show (encSmp x ++ flatS L)[(i + 1) * 3 + c]? = _
      rw [List.getElem?_append_right (by omega), hx, show (i + 1) * 3 + c - 3 = i * 3 + c by omega, ih i (by simpa using hi) c hc]
      simp

/-- A ROW OF SAMPLES THAT THE STREAM OWNS, opened. -/
theorem own_open {w : World} {top : Nat} {v : Value} {L : List SmpF} (h : w.ownsRow top 88 3 v L.length (flatS L)) :
    (v = .slice none 0 0 ∧ L = []) ∨ ∃ g cap cur, v = .slice (some ⟨g, 0, none⟩) L.length cap ∧ top ≤ g ∧ w.heap[g]? = some (.cells cur 88) ∧ L.length ≤ cap ∧ cap ≤ maxLen ∧ cur.size = cap * 3 ∧ BufIs cur L := by
  rcases h.2 with ⟨h1, h2⟩ | ⟨g, cap, cur, h1, h2, h3, h4, h5, h6, h7⟩
  · exact .inl ⟨h1, List.eq_nil_of_length_eq_zero h2⟩
  · refine .inr ⟨g, cap, cur, h1, h2, h3, h4, h5, h6, ⟨by omega, fun i hi c hc => ?_⟩⟩
    have e := flatS_get L i hi c hc
    rw [← h7, List.getElem?_take_of_lt (by omega)] at e
    simp at e
    rw [Array.getElem!_eq_getD, Array.getD_eq_getD_getElem?, e]; simp
theorem own_shut {w : World} {top g cap : Nat} {cur : Array Value} {L : List SmpF} (h2 : top ≤ g) (h3 : w.heap[g]? = some (.cells cur 88)) (h4 : L.length ≤ cap) (h5 : cap ≤ maxLen) (h6 : cur.size = cap * 3) (h7 : BufIs cur L) :
    w.ownsRow top 88 3 (.slice (some ⟨g, 0, none⟩) L.length cap) L.length (flatS L) := by
  refine ⟨flatS_len L, .inr ⟨g, cap, cur, rfl, h2, h3, h4, h5, h6, ?_⟩⟩
  apply List.ext_getElem?
  intro t
  rcases Nat.lt_or_ge t (L.length * 3) with ht | ht
  · have := flatS_get L (t / 3) (by omega) (t % 3) (by omega)
    rw [show t / 3 * 3 + t % 3 = t by omega] at this
    rw [this, List.getElem?_take_of_lt ht, ← h7.2 (t / 3) (by omega) (t % 3) (by omega), show t / 3 * 3 + t % 3 = t by omega]
    simp
    exact some_of_get! (by omega)
  · rw [List.getElem?_eq_none (by simp; omega), List.getElem?_eq_none (by rw [flatS_len]; exact ht)]

theorem BufIs.part {cur : Array Value} {A M Z : List SmpF} (h : BufIs cur (A ++ M ++ Z)) : ∀ t v, (flatS M)[t]? = some v → cur[A.length * 3 + t]? = some v := fun t v hv => by
  have ht : t < M.length * 3 := by
    rcases Nat.lt_or_ge t (flatS M).length with h | h
    · rwa [flatS_len] at h
    · rw [List.getElem?_eq_none h] at hv; cases hv
  have e := flatS_get M (t / 3) (by omega) (t % 3) (by omega)
  rw [show t / 3 * 3 + t % 3 = t by omega, hv] at e
  have hl := h.1
  simp at hl
  have h2 := h.2 (A.length + t / 3) (by simp; omega) (t % 3) (by omega)
  rw [show (A.length + t / 3) * 3 + t % 3 = A.length * 3 + t by omega] at h2
  rw [some_of_get! (by omega), h2, Option.some.inj e]
  congr 3
  rw [getElem!_pos (A ++ M ++ Z) _ (by simp; omega), getElem!_pos M (t / 3) (by omega), List.getElem_append_left (by simp; omega), List.getElem_append_right (by omega)]
  simp
theorem flatS_one_cell (M : List SmpF) : ∀ v ∈ flatS M, v.oneCell' = true := fun v hv => by
  simp only [flatS, List.mem_flatMap] at hv
  obtain ⟨x, _, hx⟩ := hv
  simp [encSmp] at hx
  rcases hx with rfl | rfl | rfl <;> rfl

/-- One sample put in at place i, over copy and store. -/
theorem BufIs.inserted {cur : Array Value} {L : List SmpF} {z : SmpF} (h : BufIs cur (L ++ [z])) (i : Nat) (hi : i ≤ L.length) (x : SmpF) :
    BufIs (setMany (setMany cur ((i + 1) * 3) (flatS (L.drop i))) (i * 3) (encSmp x)) (L.take i ++ x :: L.drop i) := by
  have hs := h.1
  simp at hs
  have hl : (flatS (L.drop i)).length = (L.length - i) * 3 := by rw [flatS_len]; simp
  refine ⟨by simp [size_setMany]; omega, fun j hj c hc => ?_⟩
  simp at hj
  rw [get_setMany _ _ _ _ (by rw [size_setMany]; omega), get_setMany _ _ _ _ (by omega), hl, encSmp_len]
  rcases Nat.lt_trichotomy j i with h1 | h1 | h1
  · rw [if_neg (by omega), if_neg (by omega), h.2 j (by simp; omega) c hc]
    congr 2
    rw [getElem!_pos (L ++ [z]) j (by simp; omega), getElem!_pos _ j (by simp; omega), List.getElem_append_left (by omega), List.getElem_append_left (by simp; omega)]
    simp
  · subst h1
    rw [if_pos (by omega), show j * 3 + c - j * 3 = c by omega]
    congr 2
    rw [getElem!_pos _ j (by simp; omega), List.getElem_append_right (by simp; omega)]
    simp [Nat.min_eq_left hi]
  · rw [if_neg (by omega), if_pos (by omega)]
    obtain ⟨q, rfl⟩ : ∃ q, j = i + 1 + q := ⟨j - (i + 1), by omega⟩
    have hq : q < (L.drop i).length := by simp; omega
    have e := flatS_get (L.drop i) q hq c hc
    rw [show (i + 1 + q) * 3 + c - (i + 1) * 3 = q * 3 + c by omega]
    rw [List.getElem!_eq_getElem?_getD, e]
    simp only [Option.getD_some]
    congr 2
    rw [getElem!_pos _ q hq, getElem!_pos _ (i + 1 + q) (by simp; omega), List.getElem_append_right (by simp; omega)]
    simp only [List.length_take, Nat.min_eq_left hi, show i + 1 + q - i = q + 1 by omega, List.getElem_cons_succ]
end Go.Proofs.Ythcgojhfbcgaiaa
