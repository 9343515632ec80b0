/- targetMapToSlice at a map of one entry. No condition. The stream's small functions: flushed, count, Count, insert, Insert, maybeSort. Conditions: the stream lies in memory as Strm says. -/
import Derived.Test.YthcgojhfbcgaiaaGreatDoorMBE
import Derived.Test.YthcgojhfbcgaiaaGreatDoorMAK
import Derived.Deep.RegionHeld3
import Derived.Deep.RegionLaw
import Derived.Deep.DeepCutAuto
import Derived.StillTailTactics
import Derived.Test.YthcgojhfbcgaiaaGreatDoorMAT
import Derived.Test.YthcgojhfbcgaiaaGreatDoorMAD

namespace Go.Proofs.YthcgojhfbcgaiaaGreatDoor
open Go.RowKit Go.ChangeMaps
theorem setBlock_alloc_last (X : World) (o o' : Obj) : setBlock (X.alloc o) X.heap.size o' = X.alloc o' := by
  unfold setBlock World.alloc
  simp [Array.setIfInBounds, Array.set_push]

set_option maxHeartbeats 400000 in
set_option maxRecDepth 100000 in
theorem t2s (q e : Nat) (M : Nat) (w : World) (hM : w.heap[M]? = some (.map #[⟨.float .f64 q, .float .f64 e, 0⟩] 1)) :
    Calls Tryz.prog 55 #[.map (some M)] w fun r w' =>
      r = .returned (.slice (some ⟨w.heap.size, 0, none⟩) 1 1) ∧ w'.heap[w.heap.size]? = some (.cells #[.float .f64 q, .float .f64 e] 84) ∧ Below w.heap.size w w' := by
  have hMlt : M < w.heap.size := by
    rcases Nat.lt_or_ge M w.heap.size with h | h
    · exact h
    · rw [Array.getElem?_eq_none h] at hM; cases hM
  have hlen : ∀ ty, (Builtin.len_ #[64] ty #[.map (some M)]).run Tryz.prog w = .ok (.int .i64 1) w := fun ty => run_len_map _ ty _ _ Tryz.underlying64 hM
  have hmk : ∀ w, (Instr.makeSlice 80 (.int .i64 0) (.int .i64 1)).run Tryz.prog w = .ok (.slice (some ⟨w.heap.size, 0, none⟩) 0 1) (w.alloc (.cells #[.float .f64 0, .float .f64 0] 84)) := fun _ => by kernel_rfl
  obtain ⟨A, hA⟩ : ∃ A, A = Obj.cells #[Value.float .f64 q, Value.float .f64 e] 84 := ⟨_, rfl⟩
  have hov : ∀ ty, (Instr.next (.pointer (some ⟨w.heap.size + 1, 0, none⟩)) false ty).run Tryz.prog ((((w.alloc A).alloc (.mapIter (some M) 1 #[0] 1)).alloc A).alloc A) =
      .ok (.tuple #[.bool false]) ((((w.alloc A).alloc (.mapIter (some M) 1 #[0] 1)).alloc A).alloc A) := fun ty => by
    refine run_next_over (M := M) _ ty (.float .f64 q) (.float .f64 e) ?_ ?_
    · rw [Below.heap_alloc _ _ _ (by simp), Below.heap_alloc _ _ _ (by simp)]
      exact hp_at _ _ _ (by simp)
    · rw [Below.heap_alloc _ _ _ (by simp; omega), Below.heap_alloc _ _ _ (by simp; omega), Below.heap_alloc _ _ _ (by simp; omega), Below.heap_alloc _ _ _ hMlt]; exact hM
  rw [hA] at hov
  clear hA A
  obtain ⟨W1, hW1⟩ : ∃ W1, W1 = w.alloc (.cells #[.float .f64 0, .float .f64 0] 84) := ⟨_, rfl⟩
  have hM1 : W1.heap[M]? = some (.map #[⟨.float .f64 q, .float .f64 e, 0⟩] 1) := by rw [hW1, Below.heap_alloc _ _ _ hMlt]; exact hM
  have hr := run_range_map (P := Tryz.prog) (w := W1) 64 _ _ Tryz.underlying64 hM1
  have hI : ∀ o, (W1.alloc o).heap[W1.heap.size]? = some o := fun o => by show (W1.heap.push o)[W1.heap.size]? = _; simp
  have hM2 : ∀ o, (W1.alloc o).heap[M]? = some (.map #[⟨.float .f64 q, .float .f64 e, 0⟩] 1) := fun o => by
    rw [Below.heap_alloc _ _ _ (by rw [hW1]; simp; omega)]; exact hM1
  have hn := fun ty => run_next_first (P := Tryz.prog) W1.heap.size ty _ _ (hI (.mapIter (some M) 1 #[] 1)) (hM2 _)
  rw [setBlock_alloc_last] at hn
  have he := run_entry_one (P := Tryz.prog) W1.heap.size _ _ (hI (.mapIter (some M) 1 #[0] 1)) (hM2 _)
  rw [hW1] at hr hn he
  simp only [World.size_alloc] at hr hn he
  clear hM hM1 hW1 hM2 hI W1
  go_enter Tryz.func55, Tryz.ntmps55
  go_wp2_with fail
  refine wp_loop_rounds 2 ?_
  rw [rounds_succ]
  go_wp2_with fail
  rw [rounds_succ]
  go_wp2_with fail
  go_ret
  refine ⟨rfl, ?_, ?_⟩
  · rw [Below.heap_alloc _ _ _ (by simp; omega), Below.heap_alloc _ _ _ (by simp; omega), Below.heap_alloc _ _ _ (by simp)]
    show (w.heap.push _)[w.heap.size]? = _
    simp
  · exact (((((Below.refl _ w).alloc (Nat.le_refl _) _).alloc (by simp) _).alloc (by simp; omega) _).alloc (by simp; omega) _)

def Z500 : Array Value := madeCells #[.float .f64 0, .float .f64 0, .float .f64 0] 1500
theorem Z500_size : Z500.size = 1500 := size_madeCells _ _
theorem info_Sample : (Tryz.prog.info? 93).map (fun i => (i.zero, i.size, i.bytes)) = some (some (.agg #[.float .f64 0, .float .f64 0, .float .f64 0]), 3, 24) := by kernel_rfl
theorem run_make500 (w : World) : (Instr.makeSlice 94 (.int .i64 0) (.int .i64 500)).run Tryz.prog w = .ok (.slice (some ⟨w.heap.size, 0, none⟩) 0 500) (w.alloc (.cells Z500 93)) := by
  obtain ⟨i, hi, hz, hs, hb⟩ := info_parts info_Sample
  have := run_make (P := Tryz.prog) w 94 93 i _ Tryz.underlying94 hi hz .i64 .i64 0 500 (by omega) (by omega) (by rw [hb]; omega) (by omega)
  rw [hs] at this
  exact this

/-- The stream in memory: S the Stream, T the stream within, Q the closure's variable, QA its one target, B the buffer. -/
structure Strm (w : World) (base S T Q QA B : Nat) (q e : Nat) (m : Nat) (sorted : Bool) (n : Nat) (lv : Value) (bc : Array Value) : Prop where
  hS : w.heap[S]? = some (.cells #[.pointer (some ⟨T, 0, none⟩), .slice (some ⟨B, 0, none⟩) m 500, .bool sorted] 96)
  hT : w.heap[T]? = some (.cells #[.float .f64 n, lv, .func (.func 56) #[] #[.pointer (some ⟨Q, 0, none⟩)]] 89)
  hQ : w.heap[Q]? = some (.cells #[.slice (some ⟨QA, 0, none⟩) 1 1] 80)
  hQA : w.heap[QA]? = some (.cells #[.float .f64 q, .float .f64 e] 84)
  hB : w.heap[B]? = some (.cells bc 93)
  bsize : bc.size = 1500
  lt : base ≤ S ∧ base ≤ T ∧ base ≤ Q ∧ base ≤ QA ∧ base ≤ B
  ne : S ≠ T ∧ S ≠ Q ∧ S ≠ QA ∧ S ≠ B ∧ T ≠ Q ∧ T ≠ QA ∧ T ≠ B ∧ Q ≠ QA ∧ Q ≠ B ∧ QA ≠ B

set_option maxHeartbeats 400000 in
set_option maxRecDepth 100000 in
theorem newTgt (q e : Nat) (M : Nat) (w : World) (hM : w.heap[M]? = some (.map #[⟨.float .f64 q, .float .f64 e, 0⟩] 1)) :
    Calls Tryz.prog 35 #[.map (some M)] w fun r w' => ∃ S T Q QA B,
      r = .returned (.pointer (some ⟨S, 0, none⟩)) ∧ Strm w' w.heap.size S T Q QA B q e 0 true 0 (.slice none 0 0) Z500 ∧ Below w.heap.size w w' := by
  have h38 := t2s q e M w hM
  have hmk := run_make500
  clear hM
  go_enter Tryz.func35, Tryz.ntmps35
  go_wp2_with (first | (go_at_call 55; refine h38.mono ?_; rintro r w1 ⟨rfl, hQ, hb⟩) | go_in)
  go_ret
  have hlt : w.heap.size < w1.heap.size := by
    rcases Nat.lt_or_ge w.heap.size w1.heap.size with h | h
    · exact h
    · rw [Array.getElem?_eq_none h] at hQ; cases hQ
  refine ⟨w1.heap.size + 1 + 1 + 1, w1.heap.size + 1, w1.heap.size, w.heap.size, w1.heap.size + 1 + 1, rfl, ⟨?_, ?_, ?_, ?_, ?_, Z500_size, by omega, by omega⟩, ?_⟩
  · exact hp_at _ _ _ (by simp)
  · rw [Below.heap_alloc _ _ _ (by simp), Below.heap_alloc _ _ _ (by simp)]; exact hp_at _ _ _ (by simp)
  · rw [Below.heap_alloc _ _ _ (by simp; omega), Below.heap_alloc _ _ _ (by simp; omega), Below.heap_alloc _ _ _ (by simp)]; exact hp_at _ _ _ rfl
  · rw [Below.heap_alloc _ _ _ (by simp; omega), Below.heap_alloc _ _ _ (by simp; omega), Below.heap_alloc _ _ _ (by simp; omega), Below.heap_alloc _ _ _ hlt]; exact hQ
  · rw [Below.heap_alloc _ _ _ (by simp)]; exact hp_at _ _ _ (by simp)
  · exact (((hb.alloc (by omega) _).alloc (by simp; omega) _).alloc (by simp; omega) _).alloc (by simp; omega) _
end Go.Proofs.YthcgojhfbcgaiaaGreatDoor

namespace Go.Proofs.YthcgojhfbcgaiaaGreatDoor
open Go.RowKit Go.Sort Go.Proofs

section
variable {w : World} {base S T Q QA B q e m : Nat} {so : Bool} {n : Nat} {lv : Value} {bc : Array Value}

theorem Strm.drewN (h : Strm w base S T Q QA B q e m so n lv bc) (j : Nat) : Strm (w.drewN j) base S T Q QA B q e m so n lv bc := ⟨h.hS, h.hT, h.hQ, h.hQA, h.hB, h.bsize, h.lt, h.ne⟩
set_option maxHeartbeats 400000 in
theorem flushed_calls (a : Option Addr) (ll lc : Nat) (h : Strm w base S T Q QA B q e m so n (.slice a ll lc) bc) :
    Calls Tryz.prog 59 #[.pointer (some ⟨S, 0, none⟩)] w fun r w' => r = .returned (.bool (decide (0 < ll))) ∧ w = w' := by
  have c0 := cell_of h.hS (i := 0) rfl
  have c1 := cell_of h.hT (i := 1) rfl
  clear h
  go_enter Tryz.func59, Tryz.ntmps59
  go_wp2
  go_ret
  exact ⟨rfl, rfl⟩

set_option maxHeartbeats 400000 in
theorem count_in_calls (k : Nat) (hk : k < 2 ^ 40) (h : Strm w base S T Q QA B q e m so (floatOfInt .f64 k) lv bc) :
    Calls Tryz.prog 63 #[.pointer (some ⟨T, 0, none⟩)] w fun r w' => r = .returned (.int .i64 k) ∧ w = w' := by
  have c0 := cell_of h.hT (i := 0) rfl
  have hc : ∀ w, (convert 29 3 (.float .f64 (floatOfInt .f64 k))).run Tryz.prog w = .ok (.int .i64 k) w := fun w =>
    run_convert_float_int w _ _ _ _ _ _ (by rw [Tryz.underlying29]; rfl) Tryz.underlying3 (by
      rw [toInt_pos _ (FI_lt k (by omega)) (by rw [FI_FX k (by omega), wholeOf_FX _ (by omega)]; omega), FI_FX k (by omega), wholeOf_FX _ (by omega)]; congr 1; omega)
  clear h
  go_enter Tryz.func63, Tryz.ntmps63
  go_wp2
  go_ret
  exact ⟨rfl, rfl⟩

set_option maxHeartbeats 400000 in
theorem Count_calls (k : Nat) (hk : k < 2 ^ 40) (hm : m < 2 ^ 40) (h : Strm w base S T Q QA B q e m so (floatOfInt .f64 k) lv bc) :
    Calls Tryz.prog 38 #[.pointer (some ⟨S, 0, none⟩)] w fun r w' => r = .returned (.int .i64 ((m : Int) + k)) ∧ ∃ d, w' = w.drewN d := by
  have c0 := cell_of h.hS (i := 0) rfl
  have c1 := cell_of h.hS (i := 1) rfl
  have hk' := fun j => count_in_calls (w := w.drewN j) k hk (h.drewN j)
  have b1 : (m : Int) < 1099511627776 := by omega
  have b2 : (k : Int) < 1099511627776 := by omega
  clear h hk hm
  go_enter Tryz.func38, Tryz.ntmps38
  go_wp2_with fail
  go_quiet ((go_at_call 63; refine Calls.quiet_of_same ((hk' _).mono fun e w' ⟨he, hw⟩ => ⟨he, hw.symm⟩)))
  go_wp2
  go_ret
  exact ⟨rfl, _, rfl⟩

theorem Strm.below (h : Strm w base S T Q QA B q e m so n lv bc) : base ≤ w.heap.size := by have := lt_of_at h.hS; have := h.lt.1; omega
/-- All blocks but two are as they were. -/
def KeptBut (w w' : World) (S B : Nat) : Prop := w.heap.size ≤ w'.heap.size ∧ ∀ b o, b ≠ S → b ≠ B → w.heap[b]? = some o → w'.heap[b]? = some o
theorem KeptBut.refl (w : World) (S B : Nat) : KeptBut w w S B := ⟨Nat.le_refl _, fun _ _ _ _ h => h⟩
theorem KeptBut.trans {a b c : World} {S B : Nat} (h1 : KeptBut a b S B) (h2 : KeptBut b c S B) : KeptBut a c S B := ⟨Nat.le_trans h1.1 h2.1, fun x o n1 n2 h => h2.2 x o n1 n2 (h1.2 x o n1 n2 h)⟩
set_option maxHeartbeats 1000000 in
set_option maxRecDepth 100000 in
theorem insert_any (x : SmpF) (hm : m < 500) (Post : Ending → World → Prop) (h : Strm w base S T Q QA B q e m so n lv bc)
    (hno : Hid (m < 499 → ∀ Y, Strm Y base S T Q QA B q e (m + 1) false n lv (setMany bc (m * 3) (encSmp x)) → Below base w Y → KeptBut w Y S B → Post (.returned (.tuple #[])) Y))
    (hfl : Hid (m = 499 → ∀ Y, Strm Y base S T Q QA B q e 500 false n lv (setMany bc (m * 3) (encSmp x)) → Below base w Y → KeptBut w Y S B →
      Calls Tryz.prog 61 #[.pointer (some ⟨S, 0, none⟩)] Y fun r w' => r = .returned (.tuple #[]) ∧ Post r w')) :
    Calls Tryz.prog 58 #[.pointer (some ⟨S, 0, none⟩), .agg #[.float .f64 x.v.b, .float .f64 x.g, .float .f64 x.d]] w Post := by
  obtain ⟨i0, hi0, hz0, hs0, hb0⟩ := info_parts info_Sample
  have hb := h.below
  have b1 : (m : Int) < 500 := by omega
  obtain ⟨O, hO⟩ : ∃ O : Obj, O = .cells #[.float .f64 x.v.b, .float .f64 x.g, .float .f64 x.d] 93 := ⟨_, rfl⟩
  have c1 : (w.alloc O).cell? ⟨S, 1, none⟩ = _ := cell_of (at_alloc _ h.hS) rfl
  have c1' : ((w.alloc O).alloc O).cell? ⟨S, 1, none⟩ = _ := cell_of (at_alloc _ (at_alloc _ h.hS)) rfl
  obtain ⟨X, hX⟩ : ∃ X : World, X = ((w.alloc O).alloc O).drew := ⟨_, rfl⟩
  have hXS : Strm X base S T Q QA B q e m so n lv bc := by
    subst hX
    exact ⟨at_alloc _ (at_alloc _ h.hS), at_alloc _ (at_alloc _ h.hT), at_alloc _ (at_alloc _ h.hQ), at_alloc _ (at_alloc _ h.hQA), at_alloc _ (at_alloc _ h.hB), h.bsize, h.lt, h.ne⟩
  have hXb : Below base w X := by subst hX; exact ((((Below.refl _ w).alloc hb _)).alloc (by simp; omega) _).drew
  have hnews : Hid (∀ j u, (encSmp x)[j]? = some u → X.cell? (Addr.add ⟨w.heap.size + 1, 0, none⟩ j) = some u) := by
    subst hX
    intro j u hu
    have e1 : ((w.alloc O).alloc O).drew.heap[w.heap.size + 1]? = some O := hp_at (w.alloc O) O _ (by simp)
    rw [hO] at e1 ⊢
    rw [Addr.add_lit]
    refine cell_of e1 ?_
    rw [Nat.zero_add]
    simpa [encSmp] using hu
  have s2 : Hid (∀ u ∈ encSmp x, u.oneCell' = true) := by
    intro u hu; simp [encSmp] at hu; rcases hu with rfl | rfl | rfl <;> rfl
  have s3 : Hid (∀ j, j < (encSmp x).length → (X.cell? ⟨B, 0 + m * 3 + j, none⟩).isSome = true ∧ X.frozen? ⟨B, 0 + m * 3 + j, none⟩ = false) := by
    intro j hj
    have hj' : j < 3 := hj
    exact ⟨by rw [cell_of hXS.hB (some_of_get! (by rw [hXS.bsize]; omega))]; rfl, free_of hXS.hB⟩
  obtain ⟨Y, hY⟩ : ∃ Y : World, Y = X.setCells B (0 + m * 3) (encSmp x) := ⟨_, rfl⟩
  have hYS : Strm Y base S T Q QA B q e m so n lv (setMany bc (m * 3) (encSmp x)) := by
    obtain ⟨hne1, hne2, hne3, hne4, hne5, hne6, hne7, hne8, hne9, hne10⟩ := h.ne
    subst hY; rw [Nat.zero_add]
    exact ⟨at_sets_other (by omega) hXS.hS _ _, at_sets_other (by omega) hXS.hT _ _, at_sets_other (by omega) hXS.hQ _ _, at_sets_other (by omega) hXS.hQA _ _, at_sets hXS.hB _ _, by rw [size_setMany]; exact h.bsize, h.lt, h.ne⟩
  have hYk : KeptBut w Y S B := by
    subst hY hX
    exact ⟨by rw [size_setCells]; show w.heap.size ≤ ((w.alloc O).alloc O).heap.size; simp; omega, fun b o _ hB ho => at_sets_other (Ne.symm hB) (show ((w.alloc O).alloc O).drew.heap[b]? = some o from at_alloc _ (at_alloc _ ho)) _ _⟩
  have hYb : Below base w Y := by subst hY; exact below_sets h.lt.2.2.2.2 _ _ _ hXb
  have d1 := cell_of hYS.hS (i := 1) rfl
  have d2 : Y.cell? ⟨S, 2, none⟩ = _ := cell_of hYS.hS (i := 2) rfl
  have f1 := free_of hYS.hS (i := 1)
  have g0 := at_set (at_set hYS.hS 1 (.slice (some ⟨B, 0, none⟩) (m + 1) 500)) 2 (.bool false)
  have g1 := free_of (at_set hYS.hS 1 (.slice (some ⟨B, 0, none⟩) (m + 1) 500)) (i := 2)
  have g2 := cell_of (at_set hYS.hS 1 (.slice (some ⟨B, 0, none⟩) (m + 1) 500)) (i := 2) rfl
  have g3 := cell_of g0 (i := 1) rfl
  have HY := Lib.hid hY
  have HX := Lib.hid hX
  have HYS := Lib.hid hYS
  have HYb := Lib.hid hYb
  have HYk := Lib.hid hYk
  have Hh := Lib.hid h
  subst hO
  clear hXS hXb hY hX hYS hYb hYk h g0
  go_enter Tryz.func58, Tryz.ntmps58
  go_wp2_with fail
  go_region_law (rw [← HX.out]; refine step_append_room rfl (.tmp 8) (.tmp 10) 94 rfl 93 i0 3 Tryz.underlying94 hi0 hs0 B 0 m 500 (by simp [Act.eval]) ⟨w.heap.size + 1, 0, none⟩ 1 1 (encSmp x) (by simp [Act.eval]) rfl hnews.out s2.out (by omega) s3.out ?_; rw [← HY.out])
  all_goals
    go_wp2_with fail
    go_quiet (fail)
    obtain ⟨Z, hZ⟩ : ∃ Z : World, Z = ((Y.setCell ⟨S, 1, none⟩ (.slice (some ⟨B, 0, none⟩) (m + 1) 500)).setCell ⟨S, 2, none⟩ (.bool false)).drewN nq := ⟨_, rfl⟩
    have hZS : Strm Z base S T Q QA B q e (m + 1) false n lv (setMany bc (m * 3) (encSmp x)) := by
      subst hZ
      have hYS := HYS.out
      obtain ⟨hne1, hne2, hne3, hne4, hne5, hne6, hne7, hne8, hne9, hne10⟩ := hYS.ne
      exact ⟨at_set (at_set hYS.hS 1 _) 2 _, at_set_other _ hne1 (at_set_other _ hne1 hYS.hT), at_set_other _ hne2 (at_set_other _ hne2 hYS.hQ), at_set_other _ hne3 (at_set_other _ hne3 hYS.hQA), at_set_other _ hne4 (at_set_other _ hne4 hYS.hB), hYS.bsize, hYS.lt, hYS.ne⟩
    have hZb : Below base w Z := by
      subst hZ
      exact below_drewN (((HYb.out.setCell (p := ⟨S, 1, none⟩) HYS.out.lt.1 _).setCell (p := ⟨S, 2, none⟩) HYS.out.lt.1 _)) _
    have hZk : KeptBut w Z S B := by
      subst hZ
      exact HYk.out.trans ⟨by simp [World.setCell], fun b o n1 _ ho => at_set_other (a := ⟨S, 2, none⟩) _ (Ne.symm n1) (at_set_other (a := ⟨S, 1, none⟩) _ (Ne.symm n1) ho)⟩
    rw [← hZ]
    have HZk := Lib.hid hZk
    have HZS := Lib.hid hZS
    have HZb := Lib.hid hZb
    clear hZS hZb hZk hZ d1 d2 f1 g1 g2 g3 HY HYS HYb HYk Hh c1 c1' HX hnews s2 s3
    rcases Nat.lt_or_ge m 499 with hlt | hge
    · have hne' : ¬ ((m : Int) + 1 = 500) := by omega
      go_wp2_with fail
      go_end0
      exact hno.out hlt _ HZS.out HZb.out HZk.out
    · obtain rfl : m = 499 := by omega
      go_wp2_with (go_at_call 61; refine (hfl.out rfl _ HZS.out HZb.out HZk.out).mono ?_; rintro r w' ⟨rfl, hP⟩)
      go_end0
      exact hP
theorem insert_calls (x : SmpF) (hm : m < 499) (h : Strm w base S T Q QA B q e m so n lv bc) :
    Calls Tryz.prog 58 #[.pointer (some ⟨S, 0, none⟩), .agg #[.float .f64 x.v.b, .float .f64 x.g, .float .f64 x.d]] w fun r w' => r = .returned (.tuple #[]) ∧ Strm w' base S T Q QA B q e (m + 1) false n lv (setMany bc (m * 3) (encSmp x)) ∧ Below base w w' :=
  insert_any x (by omega) _ h (Lib.hid fun _ Y h1 h2 _ => ⟨rfl, h1, h2⟩) (Lib.hid fun h => absurd h (by omega))
end
end Go.Proofs.YthcgojhfbcgaiaaGreatDoor
