/- Bytes that came in, as a row. -/
import Derived.Test.YthcgojhfbcgaiaaHeap
namespace Go.Proofs.Ythcgojhfbcgaiaa
open Go.RowKit Go.Proofs

theorem byte_wf' {x : Int} (h : (Lit.int .u8 x).wf = true) : 0 ≤ x ∧ x < 256 := by
  have h1 : IntKind.u8.min = 0 := rfl
  have h2 : IntKind.u8.max = 255 := rfl
  simp only [Lit.wf, Bool.and_eq_true, decide_eq_true_eq] at h
  omega
/-- The bytes that came in. -/
theorem row_bytes {w : World} {a : Option Addr} {len cap : Nat} {zs : List Int} (h : (a = none ∧ len = 0 ∧ cap = 0 ∧ zs = []) ∨
    ∃ x, a = some x ∧ len ≤ cap ∧ cap ≤ maxLen ∧ zs.length = cap ∧ (∀ i, i < zs.length → w.cell? (x.add i) = some (.int .u8 (zs.getD i 0))) ∧ ∀ n ∈ zs, (Lit.int .u8 n).wf = true) :
    ∃ z : Nat → Nat, len ≤ maxLen ∧ (∀ j, z j < 256) ∧ (0 < len → ∃ b off, a = some ⟨b, off, none⟩ ∧ b < w.heap.size ∧ ∀ j, j < len → w.cell? ⟨b, off + j, none⟩ = some (.int .u8 (z j))) := by
  rcases h with ⟨rfl, rfl, rfl, rfl⟩ | ⟨x, rfl, h1, h2, h3, h4, h5⟩
  · exact ⟨fun _ => 0, by unfold maxLen; omega, fun _ => by show 0 < 256; decide, fun h => absurd h (by omega)⟩
  · have hw : ∀ j, 0 ≤ zs.getD j 0 ∧ zs.getD j 0 < 256 := fun j => by
      rcases Nat.lt_or_ge j zs.length with h | h
      · have e : zs.getD j 0 = zs[j] := by simp [h]
        rw [e]; exact byte_wf' (h5 _ (List.getElem_mem h))
      · rw [show zs.getD j 0 = 0 by simp [h]]; omega
    refine ⟨fun j => (zs.getD j 0).toNat, by omega, fun j => by have := hw j; show (zs.getD j 0).toNat < 256; omega, fun hp => ?_⟩
    have hc : ∀ j, j < len → w.cell? (x.add j) = some (.int .u8 ((zs.getD j 0).toNat : Nat)) := fun j hj => by
      have := hw j
      rw [h4 j (by omega)]; congr 2; omega
    obtain ⟨b, off, sp⟩ := x
    have hsp : sp = none := by
      have h0 := hc 0 hp
      cases sp with
      | none => rfl
      | some q =>
        unfold World.cell? at h0
        split at h0
        · simp [Addr.add] at h0
        · cases h0
    subst hsp
    refine ⟨b, off, rfl, ?_, fun j hj => by have := hc j hj; rwa [Addr.add_lit] at this⟩
    have h0 := hc 0 hp
    unfold World.cell? at h0
    split at h0
    · rename_i hq; exact lt_of_at hq
    · cases h0

end Go.Proofs.Ythcgojhfbcgaiaa
