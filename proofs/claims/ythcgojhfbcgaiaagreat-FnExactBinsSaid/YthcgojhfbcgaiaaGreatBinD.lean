/- container/heap's Push over the histogram's bins: the new bin's mean is the greatest. Conditions: the histogram lies in memory. -/
import Derived.Test.YthcgojhfbcgaiaaGreatBinC
namespace Go.Proofs.YthcgojhfbcgaiaaGreat
open Go.RowKit Go.Proofs

theorem meth_Push (N : Nat) (a : Addr) (w : World) : (method (N + 3) 80 (.pointer (some a)) "Push").run Tryz.prog w = .ok (124, .pointer (some a)) w := by kernel_rfl
theorem meth_Len0 (N : Nat) (a : Addr) (w : World) : (method (N + 3) 80 (.pointer (some a)) "Len").run Tryz.prog w = (do let v ← loadVar 40 a; pure (43, v) : Sem (FuncId × Value)).run Tryz.prog w := by kernel_rfl
theorem meth_Less0 (N : Nat) (a : Addr) (w : World) : (method (N + 3) 80 (.pointer (some a)) "Less").run Tryz.prog w = (do let v ← loadVar 40 a; pure (121, v) : Sem (FuncId × Value)).run Tryz.prog w := by kernel_rfl
theorem load_Bins {w : World} {R : Nat} {oa : Option Addr} {n c : Nat} (h : w.cell? ⟨R, 2, none⟩ = some (.slice oa n c)) : (loadVar 40 ⟨R, 2, none⟩).run Tryz.prog w = .ok (.slice oa n c) w := by
  go_simp
theorem meth_Len {w : World} {R : Nat} {oa : Option Addr} {n c : Nat} (h : w.cell? ⟨R, 2, none⟩ = some (.slice oa n c)) (N : Nat) : (method (N + 3) 80 (.pointer (some ⟨R, 2, none⟩)) "Len").run Tryz.prog w = .ok (43, .slice oa n c) w := by
  rw [meth_Len0]; simp [load_Bins h, Result.andThen]
theorem meth_Less {w : World} {R : Nat} {oa : Option Addr} {n c : Nat} (h : w.cell? ⟨R, 2, none⟩ = some (.slice oa n c)) (N : Nat) : (method (N + 3) 80 (.pointer (some ⟨R, 2, none⟩)) "Less").run Tryz.prog w = .ok (121, .slice oa n c) w := by
  rw [meth_Less0]; simp [load_Bins h, Result.andThen]

set_option maxRecDepth 100000 in
theorem len_calls (oa : Option Addr) (n c : Nat) (w : World) : Calls Tryz.prog 43 #[.slice oa n c] w fun e w' => e = .returned (.int .i64 n) ∧ w = w' := by
  go_enter Tryz.func43, Tryz.ntmps43
  go_wp2_with fail
  go_ret
  exact ⟨rfl, rfl⟩

set_option maxRecDepth 100000 in
theorem lessB_calls {w : World} {g len cap i j bi ci si bj cj sj : Nat} (h1 : w.cell? ⟨g, i, none⟩ = some (.pointer (some ⟨bi, 0, none⟩))) (h2 : w.cell? ⟨g, j, none⟩ = some (.pointer (some ⟨bj, 0, none⟩))) (hi : i < len) (hj : j < len) (hl : len ≤ 1000)
    (h3 : BinAt w bi ci si) (h4 : BinAt w bj cj sj) (a1 : 1 ≤ ci) (a2 : ci < 2 ^ 8) (a3 : si < 2 ^ 20) (b1 : 1 ≤ cj) (b2 : cj < 2 ^ 8) (b3 : sj < 2 ^ 20) (hle : mb ci si ≤ mb cj sj) :
    Calls Tryz.prog 121 #[.slice (some ⟨g, 0, none⟩) len cap, .int .i64 j, .int .i64 i] w fun e w' => e = .returned (.bool false) ∧ ∃ d, w' = w.drewN d := by
  have m1 := fun j => Lib.hid (mean_calls (h3.drewN j) a1 a2 a3)
  have m2 := fun j => Lib.hid (mean_calls (h4.drewN j) b1 b2 b3)
  have ht : (FloatKind.f64.format.order (mb cj sj) (mb ci si) == some .lt) = false := by
    show (Ieee.double.order _ _ == some .lt) = false
    rw [order_pos (mb_lt b1 (by omega) b3) (mb_lt a1 (by omega) a3)]
    rcases Nat.lt_or_eq_of_le hle with h | h
    · rw [Nat.compare_eq_gt.2 h]; rfl
    · rw [Nat.compare_eq_eq.2 h.symm]; rfl
  have hi' : (i : Int) < (len : Int) := by omega
  have hj' : (j : Int) < (len : Int) := by omega
  have hl' : (len : Int) ≤ 1000 := by omega
  have hi0 : (0 : Int) ≤ (i : Int) := by omega
  have hj0 : (0 : Int) ≤ (j : Int) := by omega
  clear h3 h4 a1 a2 a3 b1 b2 b3 hle hl
  go_enter Tryz.func121, Tryz.ntmps121
  go_wp2_with fail
  go_quiet ((go_at_call 42; first | (with_reducible exact Calls.quiet_of (m1 _).out) | (with_reducible exact Calls.quiet_of (m2 _).out)))
  go_wp2_with fail
  go_ret
  exact ⟨rfl, _, rfl⟩

set_option maxRecDepth 100000 in
/-- Nothing goes up: there is one alone. -/
theorem up_one (w : World) (a : Addr) : Calls Tryz.prog 64 #[.iface 80 (.pointer (some a)), .int .i64 0] w fun e w' => e = .returned (.tuple #[]) ∧ ∃ d, w' = w.drewN d := by
  go_enter Tryz.func64, Tryz.ntmps64
  go_wp2_with fail
  refine wp_loop_rounds 1 ?_
  rw [rounds_succ]
  go_wp2_with fail
  go_end0
  exact ⟨rfl, 0, rfl⟩

set_option maxRecDepth 100000 in
/-- Nothing goes up: the last one is not less than its parent. -/
theorem up_more {w : World} {R i j : Nat} {oa : Option Addr} {n c : Nat} (h : w.cell? ⟨R, 2, none⟩ = some (.slice oa n c)) (hj : 1 ≤ j) (hj2 : j ≤ 1000) (hi : i = (j - 1) / 2)
    (hl : Hid (Calls Tryz.prog 121 #[.slice oa n c, .int .i64 j, .int .i64 i] w fun e w' => e = .returned (.bool false) ∧ ∃ d, w' = w.drewN d)) :
    Calls Tryz.prog 64 #[.iface 80 (.pointer (some ⟨R, 2, none⟩)), .int .i64 j] w fun e w' => e = .returned (.tuple #[]) ∧ ∃ d, w' = w.drewN d := by
  have hm := meth_Less h
  have e1 : ((j : Int) - 1) / 2 = (i : Int) := by omega
  have e2 : (1 : Int) ≤ (j : Int) := by omega
  have e3 : (j : Int) ≤ 1000 := by omega
  have e4 : ((i : Int) == (j : Int)) = false := by simp; omega
  clear h hj hj2 hi
  go_enter Tryz.func64, Tryz.ntmps64
  go_wp2_with fail
  refine wp_loop_rounds 1 ?_
  rw [rounds_succ]
  go_wp2_with (go_at_call 121; refine hl.out.mono ?_; rintro e w1 ⟨rfl, d, rfl⟩)
  go_end0
  exact ⟨rfl, d, rfl⟩

set_option maxRecDepth 100000 in
set_option maxHeartbeats 1000000 in
theorem heapPush_calls {w w0 : World} {base H R most n b c s : Nat} {v : Value} {PL : List PBin} (h : Res w base H R most n v PL) (hB : RowKit.Below base w0 w) (hb : BinAt w b c s) (hbb : base ≤ b) (hbn : b ∉ PL.map (·.1)) (hl : PL.length ≤ 999)
    (hbd : ∀ x ∈ PL ++ [(b, (⟨c, s⟩ : Bn.B))], 1 ≤ x.2.c ∧ x.2.c < 2 ^ 8 ∧ x.2.s < 2 ^ 20) (hle : ∀ x ∈ PL, mb x.2.c x.2.s ≤ mb c s) :
    Calls Tryz.prog 44 #[.iface 80 (.pointer (some ⟨R, 2, none⟩)), .iface 42 (.pointer (some ⟨b, 0, none⟩))] w fun e w' => e = .returned (.tuple #[]) ∧
      ∃ v', Res w' base H R most n v' (PL ++ [(b, ⟨c, s⟩)]) ∧ RowKit.Below base w0 w' := by
  obtain ⟨j, hj⟩ : ∃ j, j = PL.length := ⟨_, rfl⟩
  have hp : Hid (Calls Tryz.prog 124 #[.pointer (some ⟨R, 2, none⟩), .iface 42 (.pointer (some ⟨b, 0, none⟩))] w fun e w' => e = .returned (.tuple #[]) ∧
      ∃ oa oc, Hid (w'.cell? ⟨R, 2, none⟩ = some (.slice oa (j + 1) oc)) ∧ Hid (Calls Tryz.prog 64 #[.iface 80 (.pointer (some ⟨R, 2, none⟩)), .int .i64 j] w' fun e w'' => e = .returned (.tuple #[]) ∧ ∃ d, w'' = w'.drewN d) ∧
        Hid (∃ v', Res w' base H R most n v' (PL ++ [(b, ⟨c, s⟩)]) ∧ RowKit.Below base w0 w')) :=
    Lib.hid ((push_calls h hB hb hbb hbn (by omega)).mono fun e w' ⟨h1, v', h2, h3⟩ => by
      obtain ⟨oa, oc, rfl⟩ := h2.slice
      have hlen : (PL ++ [(b, (⟨c, s⟩ : Bn.B))]).length = j + 1 := by simp [hj]
      have hc : w'.cell? ⟨R, 2, none⟩ = some (.slice oa (PL ++ [(b, (⟨c, s⟩ : Bn.B))]).length oc) := cell_of h2.hR rfl
      refine ⟨h1, oa, oc, by rw [← hlen]; exact hc, ?_, ⟨_, h2, h3⟩⟩
      rcases Nat.eq_zero_or_pos j with h0 | h0
      · rw [h0]; exact up_one w' _
      · rcases h2.row with ⟨h4, h5⟩ | ⟨g, cap, cur, h4, h5, h6, h7, h8, h9, h10⟩
        · simp at h5
        · obtain ⟨rfl, _, rfl⟩ : oa = some ⟨g, 0, none⟩ ∧ True ∧ oc = cap := by injection h4 with a1 a2 a3; exact ⟨a1, trivial, a3⟩
          have hcell : ∀ i, (hi : i < (PL ++ [(b, (⟨c, s⟩ : Bn.B))]).length) → w'.cell? ⟨g, i, none⟩ = some (.pointer (some ⟨(PL ++ [(b, (⟨c, s⟩ : Bn.B))])[i].1, 0, none⟩)) := fun i hi => by
            refine cell_of h6 ?_
            have := congrArg (fun l => l[i]?) h10
            simp only [List.getElem?_take_of_lt hi, ptrs, List.getElem?_map, List.getElem?_eq_getElem hi, Option.map_some, Array.getElem?_toList] at this
            exact this
          have hpi : (j - 1) / 2 < (PL ++ [(b, (⟨c, s⟩ : Bn.B))]).length := by omega
          have hpj : j < (PL ++ [(b, (⟨c, s⟩ : Bn.B))]).length := by omega
          have hgj : (PL ++ [(b, (⟨c, s⟩ : Bn.B))])[j] = (b, ⟨c, s⟩) := by simp [hj]
          have hgi : (PL ++ [(b, (⟨c, s⟩ : Bn.B))])[(j - 1) / 2] = PL[(j - 1) / 2]'(by omega) := List.getElem_append_left _
          have hmi : PL[(j - 1) / 2]'(by omega) ∈ PL := List.getElem_mem _
          have b1 := hbd _ (List.mem_append_left _ hmi)
          have b2 := hbd (b, ⟨c, s⟩) (by simp)
          have c1 := hcell _ hpi
          have c2 := hcell _ hpj
          rw [hgi] at c1
          rw [hgj] at c2
          refine up_more hc h0 (by omega) rfl (lessB_calls c1 c2 hpi hpj (by omega) (h2.bins _ (List.mem_append_left _ hmi)) (h2.bins (b, ⟨c, s⟩) (by simp)) b1.1 b1.2.1 b1.2.2 b2.1 b2.2.1 b2.2.2 (hle _ hmi)))
  have hji : (j : Int) ≤ 999 := by omega
  have hm1 := meth_Push
  clear h hB hb hbb hbn hl hbd hle hj
  go_enter Tryz.func44, Tryz.ntmps44
  go_wp2_with (first
    | (go_at_call 124; refine hp.out.mono ?_; rintro e w1 ⟨rfl, oa, oc, hc, hup, hP⟩; have hm2 := meth_Len hc.out)
    | (go_at_call 43; refine (len_calls _ _ _ _).mono ?_; rintro e w2 ⟨rfl, rfl⟩)
    | (go_at_call 64; refine hup.out.mono ?_; rintro e w2 ⟨rfl, d, rfl⟩))
  go_end0
  obtain ⟨v', q1, q2⟩ := hP.out
  exact ⟨rfl, v', q1.drewN d, below_drewN q2 d⟩
end Go.Proofs.YthcgojhfbcgaiaaGreat
