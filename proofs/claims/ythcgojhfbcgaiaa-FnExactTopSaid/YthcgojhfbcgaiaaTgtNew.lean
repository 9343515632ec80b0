/- targetMapToSlice at a map of one entry. No condition. -/
import Derived.Test.YthcgojhfbcgaiaaTgtMap
import Derived.Test.YthcgojhfbcgaiaaHeap
namespace Go.Proofs.Ythcgojhfbcgaiaa
open Go.RowKit Go.ChangeMaps
theorem setBlock_alloc_last (X : World) (o o' : Obj) : setBlock (X.alloc o) X.heap.size o' = X.alloc o' := by
  unfold setBlock World.alloc
  simp [Array.setIfInBounds, Array.set_push]

set_option maxHeartbeats 400000 in
set_option maxRecDepth 100000 in
theorem t2s (q e : Nat) (M : Nat) (w : World) (hM : w.heap[M]? = some (.map #[⟨.float .f64 q, .float .f64 e, 0⟩] 1)) :
    Calls Try.prog 38 #[.map (some M)] w fun r w' =>
      r = .returned (.slice (some ⟨w.heap.size, 0, none⟩) 1 1) ∧ w'.heap[w.heap.size]? = some (.cells #[.float .f64 q, .float .f64 e] 79) ∧ Below w.heap.size w w' := by
  have hMlt : M < w.heap.size := by
    rcases Nat.lt_or_ge M w.heap.size with h | h
    · exact h
    · rw [Array.getElem?_eq_none h] at hM; cases hM
  have hlen : ∀ ty, (Builtin.len_ #[49] ty #[.map (some M)]).run Try.prog w = .ok (.int .i64 1) w := fun ty => run_len_map _ ty _ _ Try.underlying49 hM
  have hmk : ∀ w, (Instr.makeSlice 75 (.int .i64 0) (.int .i64 1)).run Try.prog w = .ok (.slice (some ⟨w.heap.size, 0, none⟩) 0 1) (w.alloc (.cells #[.float .f64 0, .float .f64 0] 79)) := fun _ => by kernel_rfl
  obtain ⟨A, hA⟩ : ∃ A, A = Obj.cells #[Value.float .f64 q, Value.float .f64 e] 79 := ⟨_, rfl⟩
  have hov : ∀ ty, (Instr.next (.pointer (some ⟨w.heap.size + 1, 0, none⟩)) false ty).run Try.prog ((((w.alloc A).alloc (.mapIter (some M) 1 #[0] 1)).alloc A).alloc A) =
      .ok (.tuple #[.bool false]) ((((w.alloc A).alloc (.mapIter (some M) 1 #[0] 1)).alloc A).alloc A) := fun ty => by
    refine run_next_over (M := M) _ ty (.float .f64 q) (.float .f64 e) ?_ ?_
    · rw [Below.heap_alloc _ _ _ (by simp), Below.heap_alloc _ _ _ (by simp)]
      exact hp_at _ _ _ (by simp)
    · rw [Below.heap_alloc _ _ _ (by simp; omega), Below.heap_alloc _ _ _ (by simp; omega), Below.heap_alloc _ _ _ (by simp; omega), Below.heap_alloc _ _ _ hMlt]; exact hM
  rw [hA] at hov
  clear hA A
  obtain ⟨W1, hW1⟩ : ∃ W1, W1 = w.alloc (.cells #[.float .f64 0, .float .f64 0] 79) := ⟨_, rfl⟩
  have hM1 : W1.heap[M]? = some (.map #[⟨.float .f64 q, .float .f64 e, 0⟩] 1) := by rw [hW1, Below.heap_alloc _ _ _ hMlt]; exact hM
  have hr := run_range_map (P := Try.prog) (w := W1) 49 _ _ Try.underlying49 hM1
  have hI : ∀ o, (W1.alloc o).heap[W1.heap.size]? = some o := fun o => by show (W1.heap.push o)[W1.heap.size]? = _; simp
  have hM2 : ∀ o, (W1.alloc o).heap[M]? = some (.map #[⟨.float .f64 q, .float .f64 e, 0⟩] 1) := fun o => by
    rw [Below.heap_alloc _ _ _ (by rw [hW1]; simp; omega)]; exact hM1
  have hn := fun ty => run_next_first (P := Try.prog) W1.heap.size ty _ _ (hI (.mapIter (some M) 1 #[] 1)) (hM2 _)
  rw [setBlock_alloc_last] at hn
  have he := run_entry_one (P := Try.prog) W1.heap.size _ _ (hI (.mapIter (some M) 1 #[0] 1)) (hM2 _)
  rw [hW1] at hr hn he
  simp only [World.size_alloc] at hr hn he
  clear hM hM1 hW1 hM2 hI W1
  go_enter Try.func38, Try.ntmps38
  go_wp2_with fail
  refine wp_loop_rounds 2 ?_
  rw [rounds_succ]
  go_wp2_with fail
  rw [rounds_succ]
  go_wp2_with fail
  go_ret
  refine ⟨rfl, ?_, ?_⟩
  · rw [Below.heap_alloc _ _ _ (by simp; omega), Below.heap_alloc _ _ _ (by simp; omega), Below.heap_alloc _ _ _ (by simp)]
    show (w.heap.push _)[w.heap.size]? = _
    simp
  · exact (((((Below.refl _ w).alloc (Nat.le_refl _) _).alloc (by simp) _).alloc (by simp; omega) _).alloc (by simp; omega) _)

def Z500 : Array Value := madeCells #[.float .f64 0, .float .f64 0, .float .f64 0] 1500
theorem Z500_size : Z500.size = 1500 := size_madeCells _ _
theorem info_Sample : (Try.prog.info? 88).map (fun i => (i.zero, i.size, i.bytes)) = some (some (.agg #[.float .f64 0, .float .f64 0, .float .f64 0]), 3, 24) := by kernel_rfl
theorem run_make500 (w : World) : (Instr.makeSlice 89 (.int .i64 0) (.int .i64 500)).run Try.prog w = .ok (.slice (some ⟨w.heap.size, 0, none⟩) 0 500) (w.alloc (.cells Z500 88)) := by
  obtain ⟨i, hi, hz, hs, hb⟩ := info_parts info_Sample
  have := run_make (P := Try.prog) w 89 88 i _ Try.underlying89 hi hz .i64 .i64 0 500 (by omega) (by omega) (by rw [hb]; omega) (by omega)
  rw [hs] at this
  exact this

/-- The stream in memory: S the Stream, T the stream within, Q the closure's variable, QA its one target, B the buffer. -/
structure Strm (w : World) (base S T Q QA B : Nat) (q e : Nat) (m : Nat) (sorted : Bool) (n : Nat) (lv : Value) (bc : Array Value) : Prop where
  hS : w.heap[S]? = some (.cells #[.pointer (some ⟨T, 0, none⟩), .slice (some ⟨B, 0, none⟩) m 500, .bool sorted] 91)
  hT : w.heap[T]? = some (.cells #[.float .f64 n, lv, .func (.func 39) #[] #[.pointer (some ⟨Q, 0, none⟩)]] 84)
  hQ : w.heap[Q]? = some (.cells #[.slice (some ⟨QA, 0, none⟩) 1 1] 75)
  hQA : w.heap[QA]? = some (.cells #[.float .f64 q, .float .f64 e] 79)
  hB : w.heap[B]? = some (.cells bc 88)
  bsize : bc.size = 1500
  lt : base ≤ S ∧ base ≤ T ∧ base ≤ Q ∧ base ≤ QA ∧ base ≤ B
  ne : S ≠ T ∧ S ≠ Q ∧ S ≠ QA ∧ S ≠ B ∧ T ≠ Q ∧ T ≠ QA ∧ T ≠ B ∧ Q ≠ QA ∧ Q ≠ B ∧ QA ≠ B

set_option maxHeartbeats 400000 in
set_option maxRecDepth 100000 in
theorem newTgt (q e : Nat) (M : Nat) (w : World) (hM : w.heap[M]? = some (.map #[⟨.float .f64 q, .float .f64 e, 0⟩] 1)) :
    Calls Try.prog 21 #[.map (some M)] w fun r w' => ∃ S T Q QA B,
      r = .returned (.pointer (some ⟨S, 0, none⟩)) ∧ Strm w' w.heap.size S T Q QA B q e 0 true 0 (.slice none 0 0) Z500 ∧ Below w.heap.size w w' := by
  have h38 := t2s q e M w hM
  have hmk := run_make500
  clear hM
  go_enter Try.func21, Try.ntmps21
  go_wp2_with (first | (go_at_call 38; refine h38.mono ?_; rintro r w1 ⟨rfl, hQ, hb⟩) | go_in)
  go_ret
  have hlt : w.heap.size < w1.heap.size := by
    rcases Nat.lt_or_ge w.heap.size w1.heap.size with h | h
    · exact h
    · rw [Array.getElem?_eq_none h] at hQ; cases hQ
  refine ⟨w1.heap.size + 1 + 1 + 1, w1.heap.size + 1, w1.heap.size, w.heap.size, w1.heap.size + 1 + 1, rfl, ⟨?_, ?_, ?_, ?_, ?_, Z500_size, by omega, by omega⟩, ?_⟩
  · exact hp_at _ _ _ (by simp)
  · rw [Below.heap_alloc _ _ _ (by simp), Below.heap_alloc _ _ _ (by simp)]; exact hp_at _ _ _ (by simp)
  · rw [Below.heap_alloc _ _ _ (by simp; omega), Below.heap_alloc _ _ _ (by simp; omega), Below.heap_alloc _ _ _ (by simp)]; exact hp_at _ _ _ rfl
  · rw [Below.heap_alloc _ _ _ (by simp; omega), Below.heap_alloc _ _ _ (by simp; omega), Below.heap_alloc _ _ _ (by simp; omega), Below.heap_alloc _ _ _ hlt]; exact hQ
  · rw [Below.heap_alloc _ _ _ (by simp)]; exact hp_at _ _ _ (by simp)
  · exact (((hb.alloc (by omega) _).alloc (by simp; omega) _).alloc (by simp; omega) _).alloc (by simp; omega) _
end Go.Proofs.Ythcgojhfbcgaiaa
