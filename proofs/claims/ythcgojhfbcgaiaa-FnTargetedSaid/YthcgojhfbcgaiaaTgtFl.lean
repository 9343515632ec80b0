/- The stream's flush. Conditions: the stream, its summary and its buffer lie in memory. -/
import Derived.Test.YthcgojhfbcgaiaaTgtMrg
import Derived.Test.YthcgojhfbcgaiaaTgtCmp
import Derived.Test.YthcgojhfbcgaiaaTgtDis
import Derived.Test.YthcgojhfbcgaiaaCkmsL
namespace Go.Proofs.Ythcgojhfbcgaiaa
open Go.RowKit Go.Sort Go.Proofs
open Ckms (Sm tot)

section
variable {w : World} {base top S T Q QA B k m n : Nat} {so : Bool} {bc : Array Value} {lv : Value}
/-- The summary through a change of the stream and its buffer alone. -/
theorem MS.kept {L : List SmpF} (h : MS w base top S T Q QA B k m n so bc lv L) {w' : World} {m' : Nat} {so' : Bool} {bc' : Array Value} (hk : KeptBut w w' S B) (hs : Strm w' base S T Q QA B (FX (k : Int)) 4581421828931458171 m' so' (floatOfInt .f64 (n : Int)) lv bc') :
    MS w' base top S T Q QA B k m' n so' bc' lv L := by
  refine ⟨hs, ?_, h.lt, Nat.le_trans h.sz hk.1, h.bt⟩
  rcases h.own.2 with ⟨h1, h2⟩ | ⟨g, cap, cur, h1, h2, h3, h4⟩
  · exact ⟨h.own.1, .inl ⟨h1, h2⟩⟩
  · exact ⟨h.own.1, .inr ⟨g, cap, cur, h1, h2, hk.2 g _ (by have := h.lt.1; omega) (by have := h.lt.2.2.2.2; omega) h3, h4⟩⟩
/-- The buffer emptied. -/
theorem MS.clear {L : List SmpF} (h : MS w base top S T Q QA B k m n so bc lv L) : MS (w.setCell ⟨S, 1, none⟩ (.slice (some ⟨B, 0, none⟩) 0 500)) base top S T Q QA B k 0 n so bc lv L := by
  obtain ⟨l1, l2, l3, l4, l5⟩ := h.lt
  obtain ⟨hne1, hne2, hne3, hne4, hne5, hne6, hne7, hne8, hne9, hne10⟩ := h.str.ne
  exact ⟨⟨at_set h.str.hS 1 _, at_set_other _ hne1 h.str.hT, at_set_other _ hne2 h.str.hQ, at_set_other _ hne3 h.str.hQA, at_set_other _ hne4 h.str.hB, h.str.bsize, h.str.lt, h.str.ne⟩, own_set_far h.own (fun e => by have := (h.own.lt S e.symm).1; omega) _, h.lt, by have := h.sz; simp [World.setCell]; omega, h.bt⟩

set_option maxRecDepth 100000 in
set_option maxHeartbeats 1000000 in
theorem flush_calls {v : Nat → Nat} {o : Nat} (L0 : List Sm) (hk1 : 1 ≤ k) (hk2 : k ≤ 15) (h : MS w base top S T Q QA B k m n so bc lv (L0.map smF)) (hm5 : m ≤ 500) (hn : n + m ≤ 1200)
    (hb : BufIs bc ((part v o m).map fun b => oneSmp (fN b))) (hs : so = true → m ≤ 1) (hL : Ckms.LOk L0 n) (hL5 : L0 ≠ [] → 500 ≤ n)
    (hv : ∀ i j, i < j → j < o + m → v i ≠ v j) (hvb : ∀ i, v i < 2 ^ 40) :
    Calls Try.prog 45 #[.pointer (some ⟨S, 0, none⟩)] w fun r w' => r = .returned (.tuple #[]) ∧
      ∃ (bs : List Nat) (lv' : Value) (bc' : Array Value), bs.Perm (part v o m) ∧ bs.Pairwise (· < ·) ∧ MS w' base top S T Q QA B k 0 (n + m) true bc' lv' ((Ckms.flush k L0 n bs).map smF) ∧ RowKit.Below base w w' := by
  have hms : Hid (Calls Try.prog 44 #[.pointer (some ⟨S, 0, none⟩)] w fun r w' => r = .returned (.tuple #[]) ∧ w'.cell? ⟨S, 0, none⟩ = some (.pointer (some ⟨T, 0, none⟩)) ∧ w'.cell? ⟨S, 1, none⟩ = some (.slice (some ⟨B, 0, none⟩) m 500) ∧
      Hid (∃ (bs : List Nat) (bc' : Array Value), bs.Perm (part v o m) ∧ bs.Pairwise (· < ·) ∧ BufIs bc' (bs.map fun b => oneSmp (fN b)) ∧ MS w' base top S T Q QA B k m n true bc' lv (L0.map smF) ∧ RowKit.Below base w w')) :=
    Lib.hid ((maybeSort_calls _ (by simp [part_len]) hm5 hb (Lib.hid fun e => by simpa [part_len] using hs e) h.str).mono fun r w' ⟨h1, ys, bc', h2, h3, h4, h5, h6, h7⟩ => by
      obtain ⟨bs, e1, e2, rfl⟩ := batch_sorted hv hvb h2 h3
      exact ⟨h1, cell_of h5.hS rfl, cell_of h5.hS rfl, ⟨bs, bc', e1, e2, h4, h.kept h7 h5, h6⟩⟩)
  have hmg : Hid (∀ (w1 : World) (bs : List Nat) (bc' : Array Value), bs.Perm (part v o m) → BufIs bc' (bs.map fun b => oneSmp (fN b)) → MS w1 base top S T Q QA B k m n true bc' lv (L0.map smF) →
      Calls Try.prog 60 #[.pointer (some ⟨T, 0, none⟩), .slice (some ⟨B, 0, none⟩) m 500] w1 fun r w' => r = .returned (.tuple #[]) ∧
        ∃ lv', MS w' base top S T Q QA B k m (n + m) true bc' lv' ((Ckms.flush k L0 n bs).map smF) ∧ RowKit.Below base w1 w') :=
    Lib.hid fun w1 bs bc' hp hb1 h1 => by
      have hbl : bs.length = m := by rw [hp.length_eq, part_len]
      have hbb : ∀ b ∈ bs, b < 2 ^ 40 := fun b hb' => by
        obtain ⟨i, _, e⟩ := part_mem (hp.subset hb'); rw [e]; exact hvb _
      have hel := Ckms.merge_el hk1 hk2 (n + m) hn L0 bs 0 n (by rw [hL.tot]; omega) (by omega) hL.el hbb
      refine merge_calls L0 bs (fun w' => ∃ lv', MS w' base top S T Q QA B k m (n + m) true bc' lv' ((Ckms.flush k L0 n bs).map smF) ∧ RowKit.Below base w1 w') hk1 hk2 h1 hbl hm5 hn hb1 hbb hL.tot hL5
        (fun x hx => ⟨(hL.el x hx).1, by have := Ckms.g_le_tot hx; rw [hL.tot] at this; omega⟩) (fun x hx => (hL.el x hx).2.1) (Lib.hid fun w' lv' h2 h3 => ?_)
      refine (compress_calls (Ckms.merge (Ckms.Fq k) L0 bs 0 n) hk1 hk2 h2 hn (by rw [Ckms.merge_tot, hL.tot, hbl]) (fun x hx => (hel x hx).2)).mono ?_
      rintro r w'' ⟨rfl, lv'', h4, h5⟩
      refine ⟨rfl, lv'', ?_, h3.trans h5⟩
      unfold Ckms.flush
      rw [hbl]; exact h4
  clear h hb hs hL hL5 hv hvb
  go_enter Try.func45, Try.ntmps45
  go_wp2_with (go_at_call 44; refine hms.out.mono ?_; rintro r w1 ⟨rfl, d0, d1, hP⟩)
  obtain ⟨bs, bc', p1, p2, p3, p4, p5⟩ := hP.out
  have Hp4 := Lib.hid p4
  have Hp1 := Lib.hid p1
  have Hp2 := Lib.hid p2
  have Hp3 := Lib.hid p3
  have Hp5 := Lib.hid p5
  clear p1 p2 p3 p4 p5 hP hms
  have hmg2 : Hid (Calls Try.prog 60 #[.pointer (some ⟨T, 0, none⟩), .slice (some ⟨B, 0, none⟩) m 500] w1.drew fun r w' => r = .returned (.tuple #[]) ∧ w'.cell? ⟨S, 1, none⟩ = some (.slice (some ⟨B, 0, none⟩) m 500) ∧ w'.frozen? ⟨S, 1, none⟩ = false ∧
      Hid (∃ lv', MS w' base top S T Q QA B k m (n + m) true bc' lv' ((Ckms.flush k L0 n bs).map smF) ∧ RowKit.Below base w1.drew w')) :=
    Lib.hid ((hmg.out w1.drew bs bc' Hp1.out Hp3.out (Hp4.out.drewN 1)).mono fun r w' ⟨h1, lv', h2, h3⟩ => ⟨h1, cell_of h2.str.hS rfl, free_of h2.str.hS, ⟨lv', h2, h3⟩⟩)
  clear hmg
  go_still_tail 8, (by kernel_rfl)
  change wpList _ _ _ _ _ w1.drew
  go_wp2_with (go_at_call 60; refine hmg2.out.mono ?_; rintro r w2 ⟨rfl, e1, e2, hP2⟩)
  go_end0
  obtain ⟨lv', q1, q2⟩ := hP2.out
  exact ⟨rfl, bs, lv', bc', Hp1.out, Hp2.out, q1.clear, (Hp5.out.trans (RowKit.Below.trans (RowKit.Below.refl _ _).drew q2)).setCell (p := ⟨S, 1, none⟩) q1.str.lt.1 _⟩
end
end Go.Proofs.Ythcgojhfbcgaiaa
