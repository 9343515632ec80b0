/- perkstopk's Insert, New. Conditions: the stream lies in memory. -/
import Derived.Test.YthcgojhfbcgaiaaTopA
namespace Go.Proofs.Ythcgojhfbcgaiaa
open Go.RowKit Go.Maps Go.Proofs

/-- What a word does to the entries. -/
def Bumped (AL : List Ent) (s : Word) (AL' : List Ent) : Prop := (s ∈ words AL ∧ AL' = bumpAt AL s) ∨ (s ∉ words AL ∧ ∃ b, AL' = AL ++ [(s, b, 1)])

set_option maxRecDepth 100000 in
theorem Insert_calls {w w0 : World} {base t M Z k n : Nat} {D : Du} {AL : List Ent} {s : Word} (h : Str w base t M Z k n D AL) (hB : RowKit.Below base w0 w) (hs : s.length ≤ maxLen) (hk : AL.length ≤ k) (hk8 : k ≤ 1000) (hn : n ≤ 1000) (hc : ∀ x ∈ AL, x.2.2 ≤ 1000) :
    Calls Try.prog 31 #[.pointer (some ⟨t, 0, none⟩), strV s] w fun e w' => e = .returned (.tuple #[]) ∧ Hid (∃ D' n' AL', Str w' base t M Z k n' D' AL' ∧ RowKit.Below base w0 w' ∧ n' ≤ n + 1 ∧ Bumped AL s AL') := by
  obtain ⟨O, hO⟩ : ∃ O : Obj, O = .cells #[strV s, .int .i64 1] 72 := ⟨_, rfl⟩
  have hA := h.alloc O
  have eA : ElAt (w.alloc O) w.heap.size s 1 := by unfold ElAt; rw [hO]; exact hp_at _ _ _ rfl
  have hBA := hB.alloc h.sz O
  have Hc : Hid (∀ j, Calls Try.prog 53 #[.pointer (some ⟨t, 0, none⟩), .pointer (some ⟨w.heap.size, 0, none⟩)] ((w.alloc O).drewN j) fun e w' => e = .returned (.tuple #[]) ∧ Hid (∃ D' n' AL', Str w' base t M Z k n' D' AL' ∧ RowKit.Below base w0 w' ∧ n' ≤ n + 1 ∧ Bumped AL s AL')) := Lib.hid fun j => by
    by_cases hm : s ∈ words AL
    · obtain ⟨⟨s', b, c⟩, hx, e⟩ := List.mem_map.1 hm
      simp at e; subst e
      refine (insert_old (hA.drewN j) hs eA hx (hc _ hx)).mono fun e w' ⟨h1, d, h2⟩ => ⟨h1, Lib.hid ⟨D, n, bumpAt AL s', ?_, ?_, by omega, .inl ⟨hm, rfl⟩⟩⟩
      · rw [h2]; exact ((hA.drewN j).bump hx).drewN d
      · rw [h2]; exact below_drewN ((below_drewN hBA j).setCell (p := ⟨b, 1, none⟩) (h.lt.2.2.2 _ hx) _) d
    · exact (insert_new (hA.drewN j) (below_drewN hBA j) hs eA hm hk hk8 hn).mono fun e w' ⟨h1, h2⟩ => ⟨h1, Lib.hid (by obtain ⟨D', b, h3, h4⟩ := h2.out; exact ⟨D', n + 1, _, h3, h4, Nat.le_refl _, .inr ⟨hm, b, rfl⟩⟩)⟩
  clear h hB hs hk hk8 hn hc hA eA hBA
  subst hO
  go_enter Try.func31, Try.ntmps31
  go_wp2_with (go_at_call 53; refine (Hc.out 0).mono ?_; rintro e w1 ⟨rfl, h1⟩)
  go_end0
  exact ⟨rfl, h1⟩

set_option maxRecDepth 100000 in
theorem New_calls {w w0 : World} {base k : Nat} (hB : RowKit.Below base w0 w) (hb : base ≤ w.heap.size) :
    Calls Try.prog 30 #[.int .i64 k] w fun e w' => ∃ t, e = .returned (.pointer (some ⟨t, 0, none⟩)) ∧ Hid (∃ M Z, Str w' base t M Z k 0 (.map []) [] ∧ RowKit.Below base w0 w') := by
  have hmm := @run_makeMap Try.prog
  have Hb := Lib.hid hb
  have HB := Lib.hid hB
  clear hB hb
  go_enter Try.func30, Try.ntmps30
  go_wp2_with fail
  go_ret
  refine ⟨w.heap.size, rfl, Lib.hid ⟨w.heap.size + 1, w.heap.size + 1 + 1, ⟨at_alloc _ (at_alloc _ (hp_at w _ _ rfl)), ?_, Mp.nil, by simp, ?_, by simp, ⟨Hb.out, ?_, ?_, by simp⟩, ?_⟩, ?_⟩⟩
  · have := (World.ownsMap_made (H := Unit) (w.alloc (.cells #[.int .i64 (k : Int), .map (some (w.heap.size + 1)), .pointer (some ⟨w.heap.size + 1 + 1, 0, none⟩)] 102)) Try.prog 9 ptrElem).alloc (.cells #[.string ⟨#[]⟩, .int .i64 0] 72)
    simpa using this
  · exact hp_at _ _ _ (by simp)
  · have := Hb.out; omega
  · have := Hb.out; omega
  · have := Hb.out; simp; omega
  · have := Hb.out
    exact ((HB.out.alloc this _).alloc (by simp; omega) _).alloc (by simp; omega) _
end Go.Proofs.Ythcgojhfbcgaiaa
