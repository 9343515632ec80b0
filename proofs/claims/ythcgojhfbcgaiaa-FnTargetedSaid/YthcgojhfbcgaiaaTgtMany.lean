/- impl.Targeted of many different values: what it tells has a rank near its part. Conditions: the values lie in memory. -/
import Derived.Test.YthcgojhfbcgaiaaTgtFl
import Derived.Test.YthcgojhfbcgaiaaTgtIn
import Derived.Test.YthcgojhfbcgaiaaSpec
namespace Go.Proofs.Ythcgojhfbcgaiaa
open Go.RowKit Go.Sort Go.Proofs
open Ckms (Sm tot)

theorem rk_perm {X Y : List Nat} (h : X.Perm Y) (x : Nat) : Ckms.rk X x = Ckms.rk Y x := h.countP_eq _
/-- The rank of the value at place p of values in order. -/
theorem rk_sorted {bs : List Nat} (h : bs.Pairwise (· < ·)) {p : Nat} (hp : p < bs.length) : Ckms.rk bs bs[p]! = p + 1 := by
  have e : bs = bs.take (p + 1) ++ bs.drop (p + 1) := (List.take_append_drop _ _).symm
  have hg : bs[p]! = bs[p] := getElem!_pos bs p hp
  rw [List.pairwise_iff_getElem] at h
  rw [hg]
  obtain ⟨y, hy⟩ : ∃ y, y = bs[p] := ⟨_, rfl⟩
  rw [← hy]
  conv => lhs; rw [e]
  rw [Ckms.rk_append, Ckms.rk_all, Ckms.rk_none]
  · simp; omega
  · intro x hx
    obtain ⟨i, hi, rfl⟩ := List.getElem_of_mem hx
    rw [List.getElem_drop, hy]
    exact h _ _ _ _ (by omega)
  · intro x hx
    obtain ⟨i, hi, rfl⟩ := List.getElem_of_mem hx
    rw [List.getElem_take, hy]
    simp at hi
    rcases Nat.lt_or_ge i p with h1 | h1
    · exact Nat.le_of_lt (h _ _ _ _ h1)
    · obtain rfl : i = p := by omega
      exact Nat.le_refl _

/-- The summary behind so many flushes. -/
def Stage (k : Nat) (v : Nat → Nat) (o : Nat) (L : List Sm) : Prop :=
  (o = 0 ∧ L = []) ∨ (o = 500 ∧ ∃ B1 : List Nat, B1.Perm (part v 0 500) ∧ B1.Pairwise (· < ·) ∧ L = Ckms.flush k [] 0 B1) ∨
  (o = 1000 ∧ ∃ B1 B2 : List Nat, B1.Perm (part v 0 500) ∧ B1.Pairwise (· < ·) ∧ B2.Perm (part v 500 500) ∧ B2.Pairwise (· < ·) ∧ L = Ckms.flush k (Ckms.flush k [] 0 B1) 500 B2)
theorem Stage.next {k : Nat} {v : Nat → Nat} {o : Nat} {L : List Sm} (h : Stage k v o L) (ho : o + 500 ≤ 1200) {bs : List Nat} (hp : bs.Perm (part v o 500)) (hs : bs.Pairwise (· < ·)) : Stage k v (o + 500) (Ckms.flush k L o bs) := by
  rcases h with ⟨rfl, rfl⟩ | ⟨rfl, B1, h1, h2, rfl⟩ | ⟨rfl, _⟩
  · exact .inr (.inl ⟨rfl, bs, hp, hs, rfl⟩)
  · exact .inr (.inr ⟨rfl, B1, bs, h1, h2, hp, hs, rfl⟩)
  · omega

theorem part_disj {v : Nat → Nat} {N : Nat} (hv : ∀ i j, i < j → j < N → v i ≠ v j) {o a p b : Nat} (h1 : o + a ≤ p) (h2 : p + b ≤ N) {x : Nat} (hx : x ∈ part v p b) : x ∉ part v o a := fun hy => by
  obtain ⟨i, hi, e1⟩ := part_mem hx
  obtain ⟨j, hj, e2⟩ := part_mem hy
  exact hv (o + j) (p + i) (by omega) (by omega) (by rw [← e1, ← e2])

/-- WHAT THE LAST QUERY TELLS. -/
theorem told_near {k N : Nat} (hk1 : 1 ≤ k) (hk2 : k ≤ 15) {v : Nat → Nat} (hv : ∀ i j, i < j → j < N → v i ≠ v j) {o m : Nat} (hN : N = o + m) (hN5 : 500 ≤ N) (hN12 : N ≤ 1200) (hm : m < 500) {L : List Sm} (h : Stage k v o L)
    {bs : List Nat} (hp : bs.Perm (part v o m)) (hs : bs.Pairwise (· < ·)) {p : Sm} {Z : List Sm} (hL : Ckms.flush k L o bs = p :: Z) :
    Ckms.query (Ckms.tq k N) p Z 0 ∈ part v 0 N ∧ 1600 * Ckms.rk (part v 0 N) (Ckms.query (Ckms.tq k N) p Z 0) ≤ 100 * k * N + 96 * N + 7900 ∧ 100 * k * N ≤ 1600 * Ckms.rk (part v 0 N) (Ckms.query (Ckms.tq k N) p Z 0) + 96 * N + 7900 := by
  have hbl : bs.length = m := by rw [hp.length_eq, part_len]
  rcases h with ⟨rfl, _⟩ | ⟨rfl, B1, h1, h2, rfl⟩ | ⟨rfl, B1, B2, h1, h2, h3, h4, rfl⟩
  · omega
  · have hl1 : B1.length = 500 := by rw [h1.length_eq, part_len]
    have hX : (B1 ++ bs).Perm (part v 0 N) := by
      rw [hN, ← part_append v 0 500 m]
      exact h1.append (by rw [Nat.zero_add]; exact hp)
    have := Ckms.two_ok k hk1 hk2 B1 bs hl1 h2 (by omega) hs (fun b hb hb' => part_disj hv (o := 0) (a := 500) (p := 500) (b := m) (by omega) (by omega) (hp.subset hb) (h1.subset hb')) p Z hL N (by omega)
    rw [rk_perm hX] at this
    exact ⟨hX.subset this.1, this.2⟩
  · have hl1 : B1.length = 500 := by rw [h1.length_eq, part_len]
    have hl2 : B2.length = 500 := by rw [h3.length_eq, part_len]
    have hX2 : (B1 ++ B2).Perm (part v 0 1000) := by
      rw [show 1000 = 500 + 500 from rfl, ← part_append v 0 500 500]
      exact h1.append (by rw [Nat.zero_add]; exact h3)
    have hX : (B1 ++ B2 ++ bs).Perm (part v 0 N) := by
      rw [hN, ← part_append v 0 1000 m]
      exact hX2.append (by rw [Nat.zero_add]; exact hp)
    have := Ckms.three_ok k hk1 hk2 B1 B2 bs hl1 h2 hl2 h4 (fun b hb hb' => part_disj hv (o := 0) (a := 500) (p := 500) (b := 500) (by omega) (by omega) (h3.subset hb) (h1.subset hb')) (by omega) hs
      (fun b hb hb' => part_disj hv (o := 0) (a := 1000) (p := 1000) (b := m) (by omega) (by omega) (hp.subset hb) (hX2.subset hb')) p Z hL N (by omega)
    rw [rk_perm hX] at this
    exact ⟨hX.subset this.1, this.2⟩

section
variable {w : World} {base top S T Q QA B k m n : Nat} {so : Bool} {bc : Array Value} {lv : Value}
set_option maxRecDepth 100000 in
set_option maxHeartbeats 1000000 in
/-- Query behind a flush: once more the flush, then the inner query. -/
theorem Query_many {x : Sm → List Sm → Nat} (Post : World → List Sm → Prop) (a : Option Addr) (ll lc : Nat) (hll : 0 < ll) (h : Strm w base S T Q QA B (FX (k : Int)) 4581421828931458171 m so n (.slice a ll lc) bc)
    (hfl : Hid (Calls Try.prog 45 #[.pointer (some ⟨S, 0, none⟩)] w fun r w' => r = .returned (.tuple #[]) ∧ w'.cell? ⟨S, 0, none⟩ = some (.pointer (some ⟨T, 0, none⟩)) ∧ Hid (∃ L, Post w' L)))
    (hq : Hid (∀ w' L, Post w' L → Calls Try.prog 46 #[.pointer (some ⟨T, 0, none⟩), .float .f64 (FX (k : Int))] w' fun r w'' => ∃ p Z b, L = p :: Z ∧ b = (fN (x p Z)).b ∧ r = .returned (.float .f64 b) ∧ Post w'' L)) :
    Calls Try.prog 23 #[.pointer (some ⟨S, 0, none⟩), .float .f64 (FX (k : Int))] w fun r w' => ∃ p Z, r = .returned (.float .f64 (fN (x p Z)).b) ∧ Post w' (p :: Z) := by
  have hf : Hid (Calls Try.prog 42 #[.pointer (some ⟨S, 0, none⟩)] w fun r w' => r = .returned (.bool true) ∧ w = w') :=
    Lib.hid ((flushed_calls (w := w) (base := base) (S := S) (T := T) a ll lc h).mono fun r w' ⟨h1, h2⟩ => ⟨by rw [h1, decide_eq_true hll], h2⟩)
  obtain ⟨kf, hkf⟩ : ∃ kf, kf = FX (k : Int) := ⟨_, rfl⟩
  rw [← hkf] at hq ⊢
  clear h hkf
  go_enter Try.func23, Try.ntmps23
  go_wp2_with (first
    | (go_at_call 42; refine hf.out.mono ?_; rintro r w1 ⟨rfl, rfl⟩)
    | (go_at_call 45; refine hfl.out.mono ?_; rintro r w2 ⟨rfl, c0, hP⟩)
    | (go_at_call 46; refine (hq.out _ _ hP.out.choose_spec).mono ?_; rintro r w3 ⟨p, Z, b, hZ, hb, rfl, hP3⟩; have HZ := Lib.hid hZ; have Hb := Lib.hid hb; have HP3 := Lib.hid hP3; clear hZ hb hP3))
  go_ret
  refine ⟨p, Z, by rw [Hb.out]; rfl, ?_⟩
  have := HP3.out
  rw [HZ.out] at this
  exact this
end

set_option maxRecDepth 100000 in
theorem Targeted_many (V cap N k : Nat) (v : Nat → Nat) (w : World) (hxs : FloatsAt w V N (fun i => fN (v i))) (hV : V < w.heap.size) (hN5 : 500 ≤ N) (hN12 : N ≤ 1200) (hk1 : 1 ≤ k) (hk2 : k ≤ 15) (hv : ∀ i j, i < j → j < N → v i ≠ v j) (hvb : ∀ i, v i < 2 ^ 40) :
    Calls Try.prog 9 #[.slice (some ⟨V, 0, none⟩) N cap, .float .f64 (FX (k : Int)), .float .f64 4581421828931458171] w fun r w' =>
      (∃ x, x ∈ part v 0 N ∧ 1600 * Ckms.rk (part v 0 N) x ≤ 100 * k * N + 96 * N + 7900 ∧ 100 * k * N ≤ 1600 * Ckms.rk (part v 0 N) x + 96 * N + 7900 ∧ r = .returned (.tuple #[.float .f64 (fN x).b, .int .i64 N])) ∧ RowKit.Below w.heap.size w w' := by
  refine (Targeted_any V cap N (fun i => fN (v i)) w hxs hV (by omega) (FX (k : Int)) 4581421828931458171 N
    (fun b => ∃ x, x ∈ part v 0 N ∧ 1600 * Ckms.rk (part v 0 N) x ≤ 100 * k * N + 96 * N + 7900 ∧ 100 * k * N ≤ 1600 * Ckms.rk (part v 0 N) x + 96 * N + 7900 ∧ b = .float .f64 (fN x).b)
    (fun S i w' => ∃ T Q QA B so bc base top lv L o m, i = o + m ∧ m < 500 ∧ w.heap.size ≤ base ∧ MS w' base top S T Q QA B k m o so bc lv (L.map smF) ∧ BufIs bc ((part v o m).map fun b => oneSmp (fN b)) ∧ (so = true → m = 0) ∧ Stage k v o L ∧ Ckms.LOk L o)
    (fun S w' => ∃ T Q QA B so bc base top lv L, w.heap.size ≤ base ∧ MS w' base top S T Q QA B k 0 N so bc lv L) ?_ ?_ ?_ ?_).mono ?_
  · intro S T Q QA B w1 w' hb hS hlt
    rw [← nan0] at hS
    have l1 := lt_of_at hS.hS
    have l2 := lt_of_at hS.hT
    have l3 := lt_of_at hS.hQ
    have l4 := lt_of_at hS.hQA
    have l5 := lt_of_at hS.hB
    exact ⟨T, Q, QA, B, true, Z500, w1.heap.size, w'.heap.size, _, [], 0, 0, rfl, by omega, by omega, ⟨hS, World.ownsRow_nil _ _ _ _, ⟨l1, l2, l3, l4, l5⟩, Nat.le_refl _, hS.below⟩, by simpa [part] using BufIs.nil _, fun _ => rfl, .inl ⟨rfl, rfl⟩, ⟨rfl, by simp⟩⟩
  · rintro S i w' hi ⟨T, Q, QA, B, so, bc, base, top, lv, L, o, m, rfl, hm, hbase, hM, hb, hso, hst, hok⟩
    have hpush : BufIs (setMany bc (m * 3) (encSmp (oneSmp (fN (v (o + m)))))) ((part v o (m + 1)).map fun b => oneSmp (fN b)) := by
      have := hb.push (oneSmp (fN (v (o + m)))) (by rw [List.length_map, part_len, hM.str.bsize]; omega)
      rw [List.length_map, part_len] at this
      rw [part_succ, List.map_append]; exact this
    have h5 : L ≠ [] → 500 ≤ o := fun hne => by
      rcases hst with ⟨_, h0⟩ | ⟨h0, _⟩ | ⟨h0, _⟩
      · exact absurd h0 hne
      · omega
      · omega
    refine (Insert_any (fN (v (o + m))) hm (fun r w'' => r = .returned (.tuple #[]) ∧ (∃ T Q QA B so bc base top lv L o' m', o + m + 1 = o' + m' ∧ m' < 500 ∧ w.heap.size ≤ base ∧ MS w'' base top S T Q QA B k m' o' so bc lv (L.map smF) ∧ BufIs bc ((part v o' m').map fun b => oneSmp (fN b)) ∧ (so = true → m' = 0) ∧ Stage k v o' L ∧ Ckms.LOk L o') ∧ RowKit.Below w.heap.size w' w'') hM.str
      (Lib.hid fun h Y h1 h2 h3 => ⟨rfl, ⟨T, Q, QA, B, false, _, base, top, lv, L, o, m + 1, by omega, by omega, hbase, hM.kept h3 h1, hpush, fun h => absurd h (by simp), hst, hok⟩, h2.mono hbase⟩)
      (Lib.hid fun h Y h1 h2 h3 => ?_)).mono fun r w'' h => h
    subst h
    have ho : o + 500 ≤ 1200 := by
      rcases hst with ⟨h0, _⟩ | ⟨h0, _⟩ | ⟨h0, _⟩ <;> omega
    refine (flush_calls (v := v) (o := o) L hk1 hk2 (hM.kept h3 h1) (by omega) ho hpush (fun h => absurd h (by simp)) hok h5 (fun i j h1 h2 => hv i j h1 (by omega)) hvb).mono ?_
    rintro r w'' ⟨rfl, bs, lv', bc', p1, p2, p3, p4⟩
    have hbl : bs.length = 500 := by rw [p1.length_eq, part_len]
    have hok' := Ckms.flush_ok hk1 hk2 hok (bs := bs) (by omega) (fun b hb' => by obtain ⟨i, _, e⟩ := part_mem (p1.subset hb'); rw [e]; exact hvb _)
    rw [hbl] at hok'
    exact ⟨rfl, rfl, ⟨T, Q, QA, B, true, bc', base, top, lv', _, o + 500, 0, by omega, by omega, hbase, p3, by simpa [part] using BufIs.nil _, fun _ => rfl, hst.next ho p1 p2, hok'⟩, (h2.trans p4).mono hbase⟩
  · rintro S w' ⟨T, Q, QA, B, so, bc, base, top, lv, L, o, m, hNo, hm, hbase, hM, hb, hso, hst, hok⟩
    have ho5 : 500 ≤ o := by
      rcases hst with ⟨h0, _⟩ | ⟨h0, _⟩ | ⟨h0, _⟩ <;> omega
    obtain ⟨oa, oc, hlv⟩ := own_slice hM.own
    rw [List.length_map] at hlv
    subst hlv
    have hLne : 0 < L.length := by
      cases L with
      | nil => have := hok.tot; simp [tot] at this; omega
      | cons => simp
    refine (Query_many (x := fun p Z => Ckms.query (Ckms.tq k N) p Z 0)
      (fun w'' L' => ∃ (bs : List Nat) (lv' : Value) (bc' : Array Value), bs.Perm (part v o m) ∧ bs.Pairwise (· < ·) ∧ L' = Ckms.flush k L o bs ∧ MS w'' base top S T Q QA B k 0 N true bc' lv' (L'.map smF) ∧ RowKit.Below base w' w'') oa L.length oc hLne hM.str (Lib.hid ?_) (Lib.hid ?_)).mono ?_
    · refine (flush_calls (v := v) (o := o) L hk1 hk2 hM (by omega) (by omega) hb (fun h => by have := hso h; omega) hok (fun _ => ho5) (fun i j h1 h2 => hv i j h1 (by omega)) hvb).mono ?_
      rintro r w'' ⟨rfl, bs, lv', bc', p1, p2, p3, p4⟩
      rw [← hNo] at p3
      exact ⟨rfl, cell_of p3.str.hS rfl, ⟨_, bs, lv', bc', p1, p2, rfl, p3, p4⟩⟩
    · rintro w'' L' ⟨bs, lv', bc', p1, p2, rfl, p3, p4⟩
      have hbl : bs.length = m := by rw [p1.length_eq, part_len]
      have hok' := Ckms.flush_ok hk1 hk2 hok (bs := bs) (by omega) (fun b hb' => by obtain ⟨i, _, e⟩ := part_mem (p1.subset hb'); rw [e]; exact hvb _)
      rw [hbl, ← hNo] at hok'
      obtain ⟨p, Z, hpZ⟩ : ∃ p Z, Ckms.flush k L o bs = p :: Z := by
        cases hq : Ckms.flush k L o bs with
        | nil => rw [hq] at hok'; have := hok'.tot; simp [tot] at this; omega
        | cons p Z => exact ⟨p, Z, rfl⟩
      rw [hpZ] at hok' p3 ⊢
      refine (inquery_calls p Z hk1 hk2 p3 hN12 (by omega) hok').mono ?_
      rintro r w3 ⟨rfl, q1, q2⟩
      exact ⟨p, Z, _, rfl, rfl, rfl, bs, lv', bc', p1, p2, hpZ.symm, q1, p4.trans q2⟩
    · rintro r w'' ⟨p, Z, rfl, bs, lv', bc', p1, p2, p3, p4, p5⟩
      have ht := told_near hk1 hk2 hv hNo hN5 hN12 hm hst p1 p2 p3.symm
      exact ⟨⟨_, rfl, _, ht.1, ht.2.1, ht.2.2, rfl⟩, ⟨T, Q, QA, B, true, bc', base, top, lv', _, hbase, p4⟩, p5.mono hbase⟩
  · rintro S w' ⟨T, Q, QA, B, so, bc, base, top, lv, L, hbase, hM⟩
    refine (Count_calls N (by omega) (by omega) hM.str).mono ?_
    rintro r w'' ⟨rfl, d, rfl⟩
    exact ⟨by simp, below_drewN (RowKit.Below.refl _ _) d⟩
  · rintro r w' ⟨⟨b, ⟨x, h1, h2, h3, rfl⟩, rfl⟩, hb⟩
    exact ⟨⟨x, h1, h2, h3, rfl⟩, hb⟩

/-- impl.Targeted OF DIFFERENT VALUES, FEW OR MANY. -/
theorem Targeted_ranks (V cap N k : Nat) (v : Nat → Nat) (w : World) (hxs : FloatsAt w V N (fun i => fN (v i))) (hV : V < w.heap.size) (hN1 : 1 ≤ N) (hN12 : N ≤ 1200) (hk1 : 1 ≤ k) (hk2 : k ≤ 15) (hv : ∀ i j, i < j → j < N → v i ≠ v j) (hvb : ∀ i, v i < 2 ^ 40) :
    Calls Try.prog 9 #[.slice (some ⟨V, 0, none⟩) N cap, .float .f64 (FX (k : Int)), .float .f64 4581421828931458171] w fun r w' =>
      (∃ x, x ∈ part v 0 N ∧ 1600 * Ckms.rk (part v 0 N) x ≤ 100 * k * N + 96 * N + 7900 ∧ 100 * k * N ≤ 1600 * Ckms.rk (part v 0 N) x + 96 * N + 7900 ∧ r = .returned (.tuple #[.float .f64 (fN x).b, .int .i64 N])) ∧ RowKit.Below w.heap.size w w' := by
  rcases Nat.lt_or_ge N 500 with hlt | hge
  · refine (Targeted_few V cap N k _ w hxs hV hN1 (by omega) (by omega) 4581421828931458171).mono ?_
    rintro r w' ⟨⟨ys, h1, h2, rfl⟩, hb⟩
    refine ⟨?_, hb⟩
    have h1' : ys.Perm ((part v 0 N).map fun b => oneSmp (fN b)) := by
      have e : onesOf (fun i => fN (v i)) N = (part v 0 N).map fun b => oneSmp (fN b) := by simp [onesOf, part]
      rw [← e]; exact h1
    obtain ⟨bs, p1, p2, rfl⟩ := batch_sorted (o := 0) (n := N) (fun i j a b => hv i j a (by omega)) hvb h1' h2
    have hl : bs.length = N := by rw [p1.length_eq, part_len]
    have hNk : N * k ≤ N * 15 := Nat.mul_le_mul_left N hk2
    have hNk1 : N * 1 ≤ N * k := Nat.mul_le_mul_left N hk1
    have hpl : placeOf N k < bs.length := by unfold placeOf; omega
    have hr := rk_sorted p2 hpl
    have he : (bs.map fun b => oneSmp (fN b))[placeOf N k]!.v.b = (fN bs[placeOf N k]!).b := by
      rw [getElem!_pos _ _ (by simpa using hpl), getElem!_pos bs _ hpl]; simp [oneSmp]
    refine ⟨bs[placeOf N k]!, ?_, ?_, ?_, by rw [he]⟩
    · refine p1.subset ?_
      rw [getElem!_pos bs _ hpl]; exact List.getElem_mem hpl
    · rw [← rk_perm p1, hr]
      have e : 100 * k * N = 100 * (N * k) := by rw [Nat.mul_assoc, Nat.mul_comm k]
      unfold placeOf; omega
    · rw [← rk_perm p1, hr]
      have e : 100 * k * N = 100 * (N * k) := by rw [Nat.mul_assoc, Nat.mul_comm k]
      unfold placeOf; omega
  · exact Targeted_many V cap N k v w hxs hV hge hN12 hk1 hk2 hv hvb
end Go.Proofs.Ythcgojhfbcgaiaa
