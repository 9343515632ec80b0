/- impl.Targeted, whatever its stream keeps. Conditions: the values lie in memory; the stream's steps as given. Small whole numbers as floats; rows of floats that a call made itself. -/
import Derived.Test.YthcgojhfbcgaiaaGreatDoorMBJ
import Derived.WalkKit
import Derived.OwnWalk

namespace Go.Proofs.YthcgojhfbcgaiaaGreatDoor
open Go.RowKit Go.Sort Go.Proofs Go.ChangeMaps

/-- A row of floats in memory. -/
def FloatsAt (w : World) (V N : Nat) (val : Nat → FNN) : Prop := ∀ i, i < N → w.cell? ⟨V, i, none⟩ = some (.float .f64 (val i).b)
theorem FloatsAt.below {w w' : World} {V base N : Nat} {val : Nat → FNN} (h : FloatsAt w V N val) (hb : RowKit.Below base w w') (hV : V < base) : FloatsAt w' V N val := fun i hi => (hb.cell hV).trans (h i hi)

set_option maxRecDepth 100000 in
set_option maxHeartbeats 400000 in
theorem Targeted_any (V cap N : Nat) (val : Nat → FNN) (w : World) (hxs : FloatsAt w V N val) (hV : V < w.heap.size) (hlen : N ≤ 2000) (q e c : Nat) (z : Value → Prop)
    (Inv : Nat → Nat → World → Prop) (Fin : Nat → World → Prop)
    (h0 : ∀ S T Q QA B w1 w', RowKit.Below w.heap.size w w1 → Strm w' w1.heap.size S T Q QA B q e 0 true 0 (.slice none 0 0) Z500 → w.heap.size < w1.heap.size → Inv S 0 w')
    (hs : ∀ S k w', k < N → Inv S k w' → Calls Tryz.prog 36 #[.pointer (some ⟨S, 0, none⟩), .float .f64 (val k).b] w' fun r w'' => r = .returned (.tuple #[]) ∧ Inv S (k + 1) w'' ∧ RowKit.Below w.heap.size w' w'')
    (hq : ∀ S w', Inv S N w' → Calls Tryz.prog 37 #[.pointer (some ⟨S, 0, none⟩), .float .f64 q] w' fun r w'' => (∃ b, r = .returned b ∧ z b) ∧ Fin S w'' ∧ RowKit.Below w.heap.size w' w'')
    (hc : ∀ S w', Fin S w' → Calls Tryz.prog 38 #[.pointer (some ⟨S, 0, none⟩)] w' fun r w'' => r = .returned (.int .i64 c) ∧ RowKit.Below w.heap.size w' w'') :
    Calls Tryz.prog 23 #[.slice (some ⟨V, 0, none⟩) N cap, .float .f64 q, .float .f64 e] w fun r w' => (∃ b, z b ∧ r = .returned (.tuple #[b, .int .i64 c])) ∧ RowKit.Below w.heap.size w w' := by
  have hins := fun v => run_insert_first (P := Tryz.prog) (w := w.alloc (.map #[] 0)) (M := w.heap.size) 64 _ _ _ Tryz.underlying64 Tryz.underlying29 q v (hp_at _ _ _ rfl)
  simp only [setBlock_alloc_last] at hins
  have hmk : (Instr.makeMap 64 none).run Tryz.prog w = .ok (.map (some w.heap.size)) (w.alloc (.map #[] 0)) := by kernel_rfl
  have hnew := Lib.hid (newTgt q e w.heap.size (w.alloc (.map #[⟨.float .f64 q, .float .f64 e, 0⟩] 1)) (hp_at _ _ _ rfl))
  have H0 := Lib.hid h0
  have Hs := Lib.hid hs
  have Hq := Lib.hid hq
  have Hc := Lib.hid hc
  have Hx := Lib.hid hxs
  clear h0 hs hq hc hxs
  go_enter Tryz.func23, Tryz.ntmps23
  go_wp2_with (go_at_call 35; refine hnew.out.mono ?_; rintro r w1 ⟨S, T, Q, QA, B, rfl, hS, hb⟩)
  have hw1 := hb.size
  simp only [World.size_alloc] at hw1 hb hS
  have hb0 : RowKit.Below w.heap.size w w1 := ((RowKit.Below.refl _ w).alloc (Nat.le_refl _) _).trans (hb.mono (by omega))
  have hI := Lib.hid (H0.out S T Q QA B (w.alloc (.map #[⟨.float .f64 q, .float .f64 e, 0⟩] 1)) w1 ((RowKit.Below.refl _ w).alloc (Nat.le_refl _) _) (by simp only [World.size_alloc]; exact hS) (by simp))
  have Hb0 := Lib.hid hb0
  clear hS hb hw1 hb0 hmk hins hnew
  go_loopw [18] (fun i wr => ∃ k : Nat, k ≤ N ∧ i = .int .i64 k ∧ Hid (Inv S k wr) ∧ Hid (RowKit.Below w.heap.size w wr))
    (fun i _ => N - (intOf i).toNat)
  case atStart => exact ⟨0, Nat.zero_le _, rfl, hI, Hb0⟩
  case round =>
    obtain ⟨k, hk, rfl, hIk, hbk⟩ := hrel
    have hcell : k < N → wr.cell? ⟨V, k, none⟩ = some (.float .f64 (val k).b) := fun h => (hbk.out.cell hV).trans (Hx.out k h)
    have hq' : ¬ k < N → Calls Tryz.prog 37 #[.pointer (some ⟨S, 0, none⟩), .float .f64 q] wr fun r w'' => (∃ b, r = .returned b ∧ z b) ∧ Fin S w'' ∧ RowKit.Below w.heap.size wr w'' := fun h => by
      obtain rfl : k = N := by omega
      exact Hq.out S wr hIk.out
    have Hq' := Lib.hid hq'
    clear hq'
    go_wp2_with (first
      | (go_at_call 36; refine (Hs.out S k _ (by assumption) hIk.out).mono ?_; rintro r w2 ⟨rfl, hI2, hb2⟩; have HI2 := Lib.hid hI2; have Hb2 := Lib.hid (hbk.out.trans hb2); clear hI2 hb2)
      | (go_at_call 37; refine (Hq'.out (by assumption)).mono ?_; rintro r w2 ⟨⟨b, rfl, hz⟩, hF, hb2⟩; have HF := Lib.hid hF; have Hb2 := Lib.hid (hbk.out.trans hb2); have Hz := Lib.hid hz; clear hF hb2 hz)
      | (go_at_call 38; refine (Hc.out S _ HF.out).mono ?_; rintro r w3 ⟨rfl, hb3⟩; have Hb3 := Lib.hid (Hb2.out.trans hb3); clear hb3))
    · go_roundw
      case rel => exact ⟨k + 1, by omega, by go_num, HI2, Hb2⟩
      case measure => simp [intOf]; omega
    · go_ret2
      exact ⟨⟨b, Hz.out, rfl⟩, Hb3.out⟩

/-- The samples that the values make, in the order in which they come. -/
def onesOf (val : Nat → FNN) (n : Nat) : List SmpF := (List.range n).map fun i => oneSmp (val i)
theorem onesOf_len (val : Nat → FNN) (n : Nat) : (onesOf val n).length = n := by simp [onesOf]
theorem onesOf_succ (val : Nat → FNN) (n : Nat) : onesOf val (n + 1) = onesOf val n ++ [oneSmp (val n)] := by simp [onesOf, List.range_succ]
theorem nan0 : floatOfInt .f64 ((0 : Nat) : Int) = 0 := by decide +kernel

/-- impl.Targeted OF FEW VALUES. -/
theorem Targeted_few (V cap N k : Nat) (val : Nat → FNN) (w : World) (hxs : FloatsAt w V N val) (hV : V < w.heap.size) (hpos : 1 ≤ N) (hlen : N ≤ 499) (hk : k ≤ 16) (e : Nat) :
    Calls Tryz.prog 23 #[.slice (some ⟨V, 0, none⟩) N cap, .float .f64 (FX k), .float .f64 e] w fun r w' =>
      (∃ ys : List SmpF, ys.Perm (onesOf val N) ∧ ys.Pairwise (fun a b => ltSmp b a = false) ∧ r = .returned (.tuple #[.float .f64 (ys[placeOf N k]!.v.b), .int .i64 N])) ∧ RowKit.Below w.heap.size w w' := by
  refine (Targeted_any V cap N val w hxs hV (by omega) (FX k) e N
    (fun b => ∃ ys : List SmpF, ys.Perm (onesOf val N) ∧ ys.Pairwise (fun a b => ltSmp b a = false) ∧ b = .float .f64 (ys[placeOf N k]!.v.b))
    (fun S i w' => ∃ T Q QA B so bc base, w.heap.size ≤ base ∧ BufIs bc (onesOf val i) ∧ (so = true → i = 0) ∧ Strm w' base S T Q QA B (FX k) e i so 0 (.slice none 0 0) bc)
    (fun S w' => ∃ T Q QA B so bc base, w.heap.size ≤ base ∧ Strm w' base S T Q QA B (FX k) e N so 0 (.slice none 0 0) bc) ?_ ?_ ?_ ?_).mono ?_
  · intro S T Q QA B w1 w' hb hS hlt
    exact ⟨T, Q, QA, B, true, Z500, w1.heap.size, by omega, by simpa [onesOf] using BufIs.nil _, fun _ => rfl, hS⟩
  · rintro S i w' hi ⟨T, Q, QA, B, so, bc, base, hbase, hb, hso, hS⟩
    refine (Insert_any (val i) (by omega) (fun r w'' => r = .returned (.tuple #[]) ∧ Strm w'' base S T Q QA B (FX k) e (i + 1) false 0 (.slice none 0 0) (setMany bc (i * 3) (encSmp (oneSmp (val i)))) ∧ RowKit.Below base w' w'') hS
      (Lib.hid fun _ Y h1 h2 _ => ⟨rfl, h1, h2⟩) (Lib.hid fun h => absurd h (by omega))).mono ?_
    rintro r w'' ⟨rfl, h1, h2⟩
    refine ⟨rfl, ⟨T, Q, QA, B, false, _, base, hbase, ?_, fun h => absurd h (by simp), h1⟩, h2.mono hbase⟩
    have := hb.push (oneSmp (val i)) (by rw [onesOf_len, hS.bsize]; omega)
    rw [onesOf_len] at this
    rw [onesOf_succ]; exact this
  · rintro S w' ⟨T, Q, QA, B, so, bc, base, hbase, hb, hso, hS⟩
    refine (Query_few (onesOf val N) k hk (onesOf_len _ _) hlen hpos hb (Lib.hid fun h => by have := hso h; omega) hS).mono ?_
    rintro r w'' ⟨ys, bc', h1, h2, rfl, h4, h5⟩
    exact ⟨⟨_, rfl, ys, h1, h2, rfl⟩, ⟨T, Q, QA, B, true, bc', base, hbase, h4⟩, h5.mono hbase⟩
  · rintro S w' ⟨T, Q, QA, B, so, bc, base, hbase, hS⟩
    have hS' : Strm w' base S T Q QA B (FX k) e N so (floatOfInt .f64 ((0 : Nat) : Int)) (.slice none 0 0) bc := by rw [nan0]; exact hS
    refine (Count_calls 0 (by omega) (by omega) hS').mono ?_
    rintro r w'' ⟨rfl, d, rfl⟩
    exact ⟨by simp, below_drewN (RowKit.Below.refl _ _) d⟩
  · rintro r w' ⟨⟨b, ⟨ys, h1, h2, rfl⟩, rfl⟩, hb⟩
    exact ⟨⟨ys, h1, h2, rfl⟩, hb⟩
end Go.Proofs.YthcgojhfbcgaiaaGreatDoor

namespace Go.Proofs.YthcgojhfbcgaiaaGreatDoor
open Go.RowKit Go.Sort Go.Proofs

theorem info_f64 : (Tryz.prog.info? 29).map (fun i => (i.zero, i.size, i.bytes)) = some (some (.float .f64 0), 1, 8) := by kernel_rfl

/-- A small whole number's float. -/
def fN (m : Nat) : FNN := if h : 16 * m < 2 ^ 53 then ⟨FX ((16 * m : Nat) : Int), FX_lt _ h⟩ else default
theorem fN_b (m : Nat) (h : m < 2 ^ 49) : (fN m).b = floatOfInt .f64 (m : Int) := by
  unfold fN; rw [dif_pos (by omega), FI_FX m h]

/-- A row of floats that the call made itself, as the cells of its values. -/
theorem floats_of_own {w : World} {base n : Nat} {v : Value} {val : Nat → FNN} (h : w.ownsRow base 29 1 v n ((List.range n).map fun i => .float .f64 (val i).b)) :
    (v = .slice none 0 0 ∧ n = 0) ∨ ∃ V cap, v = .slice (some ⟨V, 0, none⟩) n cap ∧ n ≤ cap ∧ cap ≤ maxLen ∧ base ≤ V ∧ V < w.heap.size ∧ FloatsAt w V n val ∧ ∀ i, w.frozen? ⟨V, i, none⟩ = false := by
  rcases h.2 with ⟨h1, h2⟩ | ⟨g, cap, cur, h1, h2, h3, h4, h5, h6, h7⟩
  · exact .inl ⟨h1, h2⟩
  · refine .inr ⟨g, cap, h1, h4, h5, h2, lt_of_at h3, fun i hi => cell_of h3 ?_, fun i => free_of h3⟩
    have := congrArg (fun l => l[i]?) h7
    simp only [List.getElem?_map, List.getElem?_range hi, Option.map_some] at this
    rw [← this, List.getElem?_take_of_lt (by omega)]
    simp

theorem own_slice {w : World} {base size n : Nat} {e : TypeId} {v : Value} {xs : List Value} (h : w.ownsRow base e size v n xs) : ∃ oa oc, v = .slice oa n oc := by
  rcases h.2 with ⟨h1, h2⟩ | ⟨g, cap, cur, h1, _⟩
  · subst h2; exact ⟨_, _, h1⟩
  · exact ⟨_, _, h1⟩

end Go.Proofs.YthcgojhfbcgaiaaGreatDoor
