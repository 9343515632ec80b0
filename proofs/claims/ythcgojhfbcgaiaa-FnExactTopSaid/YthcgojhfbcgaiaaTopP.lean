/- A map of words as read; elements that are pointers. Plain lemmas. -/
import Derived.Test.YthcgojhfbcgaiaaHeap
import Derived.Maps.RangeWalk
import Derived.Maps.OwnSet
import Derived.Maps.OwnOps
namespace Go.Proofs.Ythcgojhfbcgaiaa
open Go.RowKit Go.Maps Go.Proofs

abbrev Word := List UInt8
abbrev Du := DataW Unit
abbrev strV (s : Word) : Value := .string ⟨s.toArray⟩
def dz : Du := .lit (.int .i64 (-1))
/-- How a pointer to a block's head reads: as the block's number; nil: as minus one. -/
def ptrElem (v : Value) : Option (Du × List MemPlace) :=
  match v with
  | .pointer none => some (dz, [])
  | .pointer (some ⟨b, 0, none⟩) => some (.lit (.int .i64 (b : Int)), [])
  | _ => none
def mkP (c : Option Nat) : Value := .pointer (c.map fun b => ⟨b, 0, none⟩)
theorem ptrElem_inv {v : Value} {y : Du × List MemPlace} (h : ptrElem v = some y) : ∃ c, v = mkP c ∧ y.1 = .lit (.int .i64 (match c with | none => -1 | some b => (b : Int))) := by
  unfold ptrElem at h
  split at h
  · cases h; exact ⟨none, rfl, rfl⟩
  · rename_i b
    cases h; exact ⟨some b, rfl, rfl⟩
  · cases h
theorem ptrElem_mk (b : Nat) : ptrElem (.pointer (some ⟨b, 0, none⟩)) = some (.lit (.int .i64 (b : Int)), []) := rfl
theorem ptrElem_nil : ptrElem (.pointer none) = some (dz, []) := rfl
theorem ptrElem_at {v : Value} {ps : List MemPlace} {b : Nat} (h : ptrElem v = some (.lit (.int .i64 (b : Int)), ps)) : v = .pointer (some ⟨b, 0, none⟩) := by
  obtain ⟨c, rfl, h2⟩ := ptrElem_inv h
  cases c with
  | none => exfalso; injection h2 with h2; injection h2 with _ h2; simp at h2
  | some b' => injection h2 with h2; injection h2 with _ h2; simp at h2; obtain rfl : b = b' := by omega
               rfl
theorem ptrElem_none {v : Value} {ps : List MemPlace} (h : ptrElem v = some (dz, ps)) : v = .pointer none := by
  obtain ⟨c, rfl, h2⟩ := ptrElem_inv h
  cases c with
  | none => rfl
  | some b' => exfalso; injection h2 with h2; injection h2 with _ h2; simp at h2

/-- A map as read, against a list of its keys with what stands there. -/
structure Mp (D : Du) (AL : List (Word × Int)) : Prop where
  val : ∀ x ∈ AL, ∀ z, D.atKey (.string x.1) z = .lit (.int .i64 x.2)
  has : ∀ s, Maps.has D (.string s) = decide (s ∈ AL.map (·.1))
  size : Maps.size D = AL.length
  nod : (AL.map (·.1)).Nodup
theorem Mp.nil : Mp (.map []) [] := ⟨by simp, fun s => by simp [Maps.has], rfl, by simp⟩
theorem strKey (s : Word) : WideAt.IsKeyLit (.string s) := by trivial
theorem Mp.none {D : Du} {AL : List (Word × Int)} (h : Mp D AL) {s : Word} (hs : s ∉ AL.map (·.1)) (z : Du) : D.atKey (.string s) z = z := atKey_of_not_has (by rw [h.has, decide_eq_false hs]) z
theorem str_ne {s t : Word} (h : s ≠ t) : (Lit.string s) ≠ (Lit.string t) := fun e => h (by injection e)
/-- A new key. -/
theorem Mp.put {D : Du} {AL : List (Word × Int)} (h : Mp D AL) (hT : Tidy D) {s : Word} (hs : s ∉ AL.map (·.1)) (v : Int) : Mp (D.put (.string s) (.lit (.int .i64 v))) (AL ++ [(s, v)]) := by
  refine ⟨fun x hx z => ?_, fun t => ?_, ?_, ?_⟩
  · rcases List.mem_append.1 hx with hx | hx
    · rw [atKey_put_other (str_ne (fun e => hs (by rw [← e]; exact List.mem_map_of_mem (f := fun x : Word × Int => x.1) hx)))]
      exact h.val x hx z
    · simp at hx; subst hx
      exact atKey_put_same hT.isMap (strKey s) _ _
  · by_cases e : t = s
    · subst e
      rw [has_put_same hT.isMap (strKey t)]
      simp
    · rw [has_put_other (str_ne e), h.has]
      simp [e]
  · rw [size_put hT, h.has, decide_eq_false hs]
    simp [h.size]
  · rw [List.map_append]
    refine List.nodup_append.2 ⟨h.nod, by simp, fun x hx y hy => ?_⟩
    simp at hy; subst hy
    exact fun e => hs (e ▸ hx)
end Go.Proofs.Ythcgojhfbcgaiaa
