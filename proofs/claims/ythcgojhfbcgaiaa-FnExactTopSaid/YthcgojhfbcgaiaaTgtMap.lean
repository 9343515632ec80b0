/- A map of one entry with a float key: made, filled, ranged over; the slice of its targets (targetMapToSlice). No condition. -/
import Derived.Test.YthcgojhfbcgaiaaFloatW
import Derived.Test.YthcgojhfbcgaiaaProg
import Derived.Deep.QuietTactic
import Derived.BigQuiet
import Derived.Lib.Hide
import Derived.Maps.RangeWalk
namespace Go.Proofs.Ythcgojhfbcgaiaa
open Go.RowKit Go.ChangeMaps
section
variable {P : Program} {w : World} {M : Nat} {es : Array MapEntry} {c : Nat}
theorem run_len_map (t ty k e : TypeId) (ht : P.underlying t = some (.map k e)) (h : w.heap[M]? = some (.map es c)) :
    (Builtin.len_ #[t] ty #[.map (some M)]).run P w = .ok (.int .i64 es.size) w := by
  simp [Builtin.len_, run_underlying ht, MapKept.run_getObj_map h, goInt, Result.andThen]
theorem run_range_map (t k e : TypeId) (ht : P.underlying t = some (.map k e)) (h : w.heap[M]? = some (.map es c)) :
    (Instr.range t (.map (some M))).run P w = .ok (.pointer (some ⟨w.heap.size, 0, none⟩)) (w.alloc (.mapIter (some M) c #[] c)) := by
  simp [Instr.range, run_underlying ht, MapKept.run_getObj_map h, Result.andThen]
theorem run_insert_first (t k e : TypeId) (f : FloatKind) (ht : P.underlying t = some (.map k e)) (hk : P.underlying k = some (.float f)) (q : Nat) (v : Value) (h : w.heap[M]? = some (.map #[] 0)) :
    (Instr.mapUpdate t (.map (some M)) (.float f q) v).run P w = .ok () (setBlock w M (.map #[⟨.float f q, v, 0⟩] 1)) := by
  have hc : ∀ w, (Instr.checkKey false 10000 k (.float f q)).run P w = .ok () w := fun w => by
    show (Instr.checkKey false (9999 + 1) k _).run P w = _
    rw [Instr.checkKey]; simp [run_underlying hk]
  simp [Instr.mapUpdate, run_underlying ht, run_underlying hk, MapKept.run_getObj_map h, hc, Instr.findKey, Instr.findNow, MapKept.run_setObj_map _ h, Result.andThen, setBlock]
/-- The step: the one entry; then it is over. -/
theorem run_next_first (I : Nat) (ty : TypeId) (kv v : Value) (hI : w.heap[I]? = some (.mapIter (some M) 1 #[] 1)) (h : w.heap[M]? = some (.map #[⟨kv, v, 0⟩] 1)) :
    (Instr.next (.pointer (some ⟨I, 0, none⟩)) false ty).run P w = .ok (.tuple #[.bool true, kv, v]) (setBlock w I (.mapIter (some M) 1 #[0] 1)) := by
  simp [Instr.next, getObj, setObj, Sem.run_bind, Sem.run, hI, h, Result.andThen, choose, Question.forced, setBlock]
theorem run_next_over (I : Nat) (ty : TypeId) (kv v : Value) (hI : w.heap[I]? = some (.mapIter (some M) 1 #[0] 1)) (h : w.heap[M]? = some (.map #[⟨kv, v, 0⟩] 1)) :
    (Instr.next (.pointer (some ⟨I, 0, none⟩)) false ty).run P w = .ok (.tuple #[.bool false]) w := by
  simp [Instr.next, getObj, Sem.run_bind, Sem.run, hI, h, Result.andThen, choose, Question.forced]
theorem run_entry_one (I : Nat) (kv v : Value) (hI : w.heap[I]? = some (.mapIter (some M) 1 #[0] 1)) (h : w.heap[M]? = some (.map #[⟨kv, v, 0⟩] 1)) :
    (Instr.entry (.pointer (some ⟨I, 0, none⟩))).run P w = .ok (.tuple #[kv, v]) w := by
  simp [Instr.entry, getObj, Sem.run_bind, Sem.run, hI, h, Result.andThen]
end
end Go.Proofs.Ythcgojhfbcgaiaa
