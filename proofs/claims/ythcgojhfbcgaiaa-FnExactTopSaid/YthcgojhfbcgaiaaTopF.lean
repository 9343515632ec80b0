/- perkstopk's Query. Conditions: the stream lies in memory, of at most twelve entries. -/
import Derived.Test.YthcgojhfbcgaiaaTopE
namespace Go.Proofs.Ythcgojhfbcgaiaa
open Go.RowKit Go.Maps Go.Proofs

set_option maxRecDepth 100000 in
theorem Reverse_calls (v : Value) (w : World) : Calls Try.prog 55 #[.iface 68 v] w fun e w' => e = .returned (.iface 121 (.pointer (some ⟨w.heap.size, 0, none⟩))) ∧ w' = w.alloc (.cells #[.iface 68 v] 123) := by
  go_enter Try.func55, Try.ntmps55
  go_wp2_with fail
  go_ret
  exact ⟨rfl, rfl⟩

set_option maxRecDepth 100000 in
theorem sortR_nil {w : World} {r c : Nat} {oa : Option Addr} (h : w.cell? ⟨r, 0, none⟩ = some (.iface 68 (.slice oa 0 c))) :
    Calls Try.prog 54 #[.iface 121 (.pointer (some ⟨r, 0, none⟩))] w fun e w' => e = .returned (.tuple #[]) ∧ w' = w := by
  have m1 := mR_Len h
  have hlen := fun w => Lib.hid (smpLen_calls oa 0 c w)
  clear h
  go_enter Try.func54, Try.ntmps54
  go_wp2_with (first
    | (go_at_call 157; refine (hlen _).out.mono ?_; rintro e w1 ⟨rfl, rfl⟩))
  refine bodyPost_ret (results_none rfl _ _ _) rfl ?_
  exact ⟨rfl, rfl⟩

/-- What Query hands over. -/
def QOut (w w' : World) (AL : List Ent) (oa : Option Addr) : Prop :=
  RowKit.Below w.heap.size w w' ∧ ∃ L : List Nat, L.Perm (AL.map (·.2.1)) ∧ ∀ i (hi : i < L.length), ∃ g, oa = some ⟨g, 0, none⟩ ∧ g < w'.heap.size ∧ w'.cell? ⟨g, i, none⟩ = some (ptrV L[i])
theorem sort_part {w wr : World} {base t M Z k n : Nat} {D : Du} {AL CL : List Ent} (h : Str w base t M Z k n D AL) (hl : AL.length ≤ 12) (hp : CL.Perm AL) (hB : RowKit.Below w.heap.size w wr) {oa : Option Addr} {c : Nat}
    (ho : wr.ownsRow (w.heap.size + 1) 70 1 (.slice oa CL.length c) CL.length (CL.map fun x => ptrV x.2.1)) :
    Calls Try.prog 54 #[.iface 121 (.pointer (some ⟨wr.heap.size, 0, none⟩))] (wr.alloc (.cells #[.iface 68 (.slice oa CL.length c)] 123)) fun e w' => e = .returned (.tuple #[]) ∧ Hid (QOut w w' AL oa) := by
  have hlen := hp.length_eq
  have hr : (wr.alloc (.cells #[.iface 68 (.slice oa CL.length c)] 123)).heap[wr.heap.size]? = some (.cells #[.iface 68 (.slice oa CL.length c)] 123) := hp_at _ _ _ rfl
  have hBA := hB.alloc hB.size (.cells #[.iface 68 (.slice oa CL.length c)] 123)
  rcases ho.2 with ⟨h1, h2⟩ | ⟨g, cap, cur, h1, h2, h3, h4, h5, h6, h7⟩
  · have hc := cell_of hr (i := 0) rfl
    have hc' : (wr.alloc (.cells #[.iface 68 (.slice oa CL.length c)] 123)).cell? ⟨wr.heap.size, 0, none⟩ = some (.iface 68 (.slice oa 0 c)) := by rw [hc]; rw [h2]; rfl
    refine (sortR_nil hc').mono fun e w' ⟨a, b⟩ => ⟨a, Lib.hid ⟨by rw [b]; exact hBA, [], ?_, by simp⟩⟩
    have : AL = [] := List.eq_nil_of_length_eq_zero (by omega)
    subst this; simp
  · obtain ⟨rfl, _, rfl⟩ : oa = some ⟨g, 0, none⟩ ∧ True ∧ c = cap := by injection h1 with a1 a2 a3; exact ⟨a1, trivial, a3⟩
    have hL : (CL.map (·.2.1)).length = CL.length := by simp
    have hS : Srt w (wr.alloc (.cells #[.iface 68 (.slice (some ⟨g, 0, none⟩) CL.length c)] 123)) w.heap.size wr.heap.size g c (CL.map (·.2.1)) := by
      refine ⟨hBA, ⟨hB.size, by omega, hBA.size⟩, by rw [hL]; exact hr, ⟨cur, at_alloc _ h3, by omega, by rw [hL]; omega, ?_⟩, fun b hb => ?_⟩
      · rw [hL]; rw [Nat.mul_one] at h7; rw [h7]; simp
      · obtain ⟨x, hx, rfl⟩ := List.mem_map.1 hb
        have e1 := h.el x (hp.mem_iff.1 hx)
        refine ⟨x.1, x.2.2, at_alloc _ ?_⟩
        rw [hB.block _ (lt_of_at e1)]; exact e1
    refine (sortR_calls ⟨_, List.Perm.refl _, hS⟩ (by simp; omega)).mono fun e w' ⟨a, b⟩ => ⟨a, Lib.hid ?_⟩
    obtain ⟨L', hp', hs'⟩ := b.out
    refine ⟨hs'.below, L', hp'.trans (hp.map _), fun i hi => ⟨g, rfl, ?_, (hs'.cell i hi).1⟩⟩
    obtain ⟨cur', q1, _⟩ := hs'.row
    exact lt_of_at q1
theorem keyS_inv {key : Value} {kl : Lit} (h : keyOf Try.prog 9 key = some kl) : ∃ s : Word, key = strV s ∧ kl = .string s := by
  obtain ⟨b, rfl⟩ : ∃ b, key = .string b := by
    have hk := Try.underlying9
    cases key <;> simp [keyOf, hk, mapKey] at h
    exact ⟨_, rfl⟩
  have hk := Try.underlying9
  simp [keyOf, hk, mapKey] at h
  exact ⟨b.data.toList, by simp [strV], by first | exact h.2.symm | exact h.symm⟩
theorem keyS_eq {s : Word} {kl : Lit} (h : keyOf Try.prog 9 (strV s) = some kl) : kl = .string s := by
  obtain ⟨s', e, rfl⟩ := keyS_inv h
  have : s = s' := by simpa [strV] using e
  rw [this]
/-- One entry struck out of those that are to come. -/
theorem strike {R : List Ent} (hn : (words R).Nodup) {x : Ent} (hx : x ∈ R) (s : Word) : decide (s ∈ words (R.erase x)) = (decide (s ∈ words R) && !(Lit.string s).sameKey (.string x.1)) := by
  have hp := (List.perm_cons_erase hx).map (·.1)
  have hn' := hp.nodup_iff.1 hn
  rw [List.map_cons, List.nodup_cons] at hn'
  have hm := hp.mem_iff (a := s)
  rw [List.map_cons, List.mem_cons] at hm
  have e : (Lit.string s).sameKey (.string x.1) = (s == x.1) := rfl
  rw [e]
  unfold words at *
  by_cases e2 : s = x.1
  · rw [e2]; simpa using hn'.1
  · have : (s == x.1) = false := by simpa using e2
    rw [this]; simp [hm, e2]
end Go.Proofs.Ythcgojhfbcgaiaa
