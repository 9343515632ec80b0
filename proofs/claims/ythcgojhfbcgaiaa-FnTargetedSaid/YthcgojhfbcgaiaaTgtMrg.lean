/- The stream's merge. Conditions: the stream, its summary and the batch lie in memory. -/
import Derived.Test.YthcgojhfbcgaiaaTgtMS
import Derived.Deep.RegionHeld3
import Derived.Deep.RegionLaw
import Derived.StillTailTactics
import Derived.WalkKit
import Derived.WalkMore
import Derived.ScopeJumps
namespace Go.Proofs.Ythcgojhfbcgaiaa
open Go.RowKit Go.Sort Go.Proofs
open Ckms (Sm tot)

/-- What merge has at a place: what is done, what is left, and that the whole comes out as the plain law's merge. -/
def MInv (k n0 : Nat) (L0 : List Sm) (bs : List Nat) (j : Nat) (D R : List Sm) : Prop :=
  D ++ Ckms.merge (Ckms.Fq k) R (bs.drop j) (tot D) (n0 + j) = Ckms.merge (Ckms.Fq k) L0 bs 0 n0 ∧ tot D + tot R = n0 + j ∧ (R ≠ [] → 500 ≤ n0) ∧ (∀ x ∈ D ++ R, x.v < 2 ^ 40 ∧ x.g ≤ 1200) ∧ (∀ x ∈ D ++ R, 1 ≤ x.g)

/-- .. and the memory. -/
structure MMem (w0 w : World) (base top S T Q QA B k m n : Nat) (so : Bool) (bc : Array Value) (lv : Value) (L : List SmpF) : Prop where
  ms : MS w base top S T Q QA B k m n so bc lv L
  bel : RowKit.Below base w0 w

set_option maxRecDepth 100000 in
theorem get_mem (bs : List Nat) (j : Nat) (h : j < bs.length) : bs[j]! ∈ bs := by rw [getElem!_pos bs j h]; exact List.getElem_mem h
theorem len_tot (D : List Sm) (h : ∀ x ∈ D, 1 ≤ x.g) : D.length ≤ tot D := by
  induction D with
  | nil => simp
  | cons x D ih => have := h x (by simp); have := ih (fun y hy => h y (by simp [hy])); simp only [tot, List.length_cons]; omega
theorem tot_append (a b : List Sm) : tot (a ++ b) = tot a + tot b := Ckms.tot_append a b
theorem drop_at (bs : List Nat) (j : Nat) (h : j < bs.length) : bs.drop j = bs[j]! :: bs.drop (j + 1) := by
  rw [getElem!_pos bs j h]; exact List.drop_eq_getElem_cons h
theorem MInv.last {k n0 : Nat} {L0 : List Sm} {bs : List Nat} {j : Nat} {D : List Sm} {b : Nat} (h : MInv k n0 L0 bs j D []) (hb : b = bs[j]!) (hj : j < bs.length) (hbb : b < 2 ^ 40) : MInv k n0 L0 bs (j + 1) (D ++ [(⟨b, 1, 0⟩ : Sm)]) [] := by
  obtain ⟨h1, h2, h3, h4, h5⟩ := h
  rw [drop_at bs j hj, ← hb] at h1
  refine ⟨?_, by rw [tot_append]; simp [tot] at h2 ⊢; omega, fun h => absurd rfl h, ?_, ?_⟩
  · rw [← h1, tot_append]
    rw [show Ckms.merge (Ckms.Fq k) [] (b :: bs.drop (j + 1)) (tot D) (n0 + j) = ⟨b, 1, 0⟩ :: Ckms.merge (Ckms.Fq k) [] (bs.drop (j + 1)) (tot D + 1) (n0 + j + 1) by rw [Ckms.merge]]
    simp [tot, Nat.add_assoc]
  · intro x hx
    simp at hx
    rcases hx with hx | rfl
    · exact h4 x (by simp [hx])
    · exact ⟨hbb, by show 1 ≤ 1200; omega⟩
  · intro x hx
    simp at hx
    rcases hx with hx | rfl
    · exact h5 x (by simp [hx])
    · exact Nat.le_refl 1
theorem MInv.skip {k n0 : Nat} {L0 : List Sm} {bs : List Nat} {j : Nat} {D R : List Sm} {c : Sm} {b : Nat} (h : MInv k n0 L0 bs j D (c :: R)) (hb : b = bs[j]!) (hj : j < bs.length) (hlt : ¬ b < c.v) : MInv k n0 L0 bs j (D ++ [c]) R := by
  obtain ⟨h1, h2, h3, h4, h5⟩ := h
  rw [drop_at bs j hj, ← hb] at h1
  refine ⟨?_, by rw [tot_append]; simp [tot] at h2 ⊢; omega, fun _ => h3 (by simp), by simpa using h4, by simpa using h5⟩
  rw [drop_at bs j hj, ← hb, ← h1, tot_append]
  rw [show Ckms.merge (Ckms.Fq k) (c :: R) (b :: bs.drop (j + 1)) (tot D) (n0 + j) = c :: Ckms.merge (Ckms.Fq k) R (b :: bs.drop (j + 1)) (tot D + c.g) (n0 + j) by rw [Ckms.merge, if_neg hlt]]
  simp [tot]
theorem MInv.ins {k n0 : Nat} {L0 : List Sm} {bs : List Nat} {j : Nat} {D R : List Sm} {c : Sm} {b : Nat} (h : MInv k n0 L0 bs j D (c :: R)) (hb : b = bs[j]!) (hj : j < bs.length) (hbb : b < 2 ^ 40) (hlt : b < c.v) : MInv k n0 L0 bs (j + 1) (D ++ [(⟨b, 1, Ckms.Fq k (tot D) (n0 + j) - 1⟩ : Sm)]) (c :: R) := by
  obtain ⟨h1, h2, h3, h4, h5⟩ := h
  rw [drop_at bs j hj, ← hb] at h1
  refine ⟨?_, by rw [tot_append]; simp [tot] at h2 ⊢; omega, fun _ => h3 (by simp), ?_, ?_⟩
  · rw [← h1, tot_append]
    rw [show Ckms.merge (Ckms.Fq k) (c :: R) (b :: bs.drop (j + 1)) (tot D) (n0 + j) = ⟨b, 1, Ckms.Fq k (tot D) (n0 + j) - 1⟩ :: Ckms.merge (Ckms.Fq k) (c :: R) (bs.drop (j + 1)) (tot D + 1) (n0 + j + 1) by rw [Ckms.merge, if_pos hlt]]
    simp [tot, Nat.add_assoc]
  · intro x hx
    simp at hx
    rcases hx with hx | rfl | rfl | hx
    · exact h4 x (by simp [hx])
    · exact ⟨hbb, by show 1 ≤ 1200; omega⟩
    · exact h4 x (by simp)
    · exact h4 x (by simp [hx])
  · intro x hx
    simp at hx
    rcases hx with hx | rfl | rfl | hx
    · exact h5 x (by simp [hx])
    · exact Nat.le_refl 1
    · exact h5 x (by simp)
    · exact h5 x (by simp [hx])
theorem MMem.drew {w0 w : World} {base top S T Q QA B k m n : Nat} {so : Bool} {bc : Array Value} {lv : Value} {L : List SmpF} (h : MMem w0 w base top S T Q QA B k m n so bc lv L) : MMem w0 w.drew base top S T Q QA B k m n so bc lv L := ⟨h.ms.drewN 1, h.bel.drew⟩
/-- The frame at merge's label. -/
def MFrame (T B m j X : Nat) (s4 s5 : Value) (a : Act) : Prop := ∃ u : Nat → Value, a = { tmps := #[.pointer (some ⟨T, 0, none⟩), .slice (some ⟨B, 0, none⟩) m 500, undef, undef, s4, s5, undef, .pointer (some ⟨X, 0, none⟩), u 8, .slice (some ⟨B, 0, none⟩) m 500, .int .i64 m, .int .i64 j, u 12, u 13, u 14, u 15, u 16, u 17, u 18, u 19, u 20, u 21, u 22, u 23, u 24, u 25, u 26, u 27, u 28, u 29, u 30, u 31, u 32, u 33, u 34, u 35, u 36, u 37, u 38, u 39, u 40, u 41, u 42, u 43, u 44, u 45, u 46, u 47, u 48, u 49, u 50, u 51, u 52, u 53, u 54, u 55, u 56, u 57, u 58, u 59, u 60, u 61, u 62, u 63, u 64, u 65, u 66, u 67, u 68, u 69, u 70, u 71, u 72, u 73, u 74, u 75, u 76, u 77, u 78, u 79, u 80, u 81, u 82, u 83, u 84, u 85, u 86, u 87, u 88, u 89, u 90, u 91, u 92, u 93, u 94, u 95, u 96, u 97, u 98, u 99, u 100, u 101, u 102, u 103, u 104, u 105, u 106, u 107, u 108, u 109, u 110, u 111, u 112, u 113, u 114, u 115, u 116, u 117, u 118, undef, undef], defers := [] }

set_option maxRecDepth 100000 in
theorem MFrame.of {T B m j X : Nat} {s4 s5 : Value} (a : Act) (hd : a.defers = []) (h : a.tmps = #[.pointer (some ⟨T, 0, none⟩), .slice (some ⟨B, 0, none⟩) m 500, undef, undef, s4, s5, undef, .pointer (some ⟨X, 0, none⟩), a.tmps[8]!, .slice (some ⟨B, 0, none⟩) m 500, .int .i64 m, .int .i64 j, a.tmps[12]!, a.tmps[13]!, a.tmps[14]!, a.tmps[15]!, a.tmps[16]!, a.tmps[17]!, a.tmps[18]!, a.tmps[19]!, a.tmps[20]!, a.tmps[21]!, a.tmps[22]!, a.tmps[23]!, a.tmps[24]!, a.tmps[25]!, a.tmps[26]!, a.tmps[27]!, a.tmps[28]!, a.tmps[29]!, a.tmps[30]!, a.tmps[31]!, a.tmps[32]!, a.tmps[33]!, a.tmps[34]!, a.tmps[35]!, a.tmps[36]!, a.tmps[37]!, a.tmps[38]!, a.tmps[39]!, a.tmps[40]!, a.tmps[41]!, a.tmps[42]!, a.tmps[43]!, a.tmps[44]!, a.tmps[45]!, a.tmps[46]!, a.tmps[47]!, a.tmps[48]!, a.tmps[49]!, a.tmps[50]!, a.tmps[51]!, a.tmps[52]!, a.tmps[53]!, a.tmps[54]!, a.tmps[55]!, a.tmps[56]!, a.tmps[57]!, a.tmps[58]!, a.tmps[59]!, a.tmps[60]!, a.tmps[61]!, a.tmps[62]!, a.tmps[63]!, a.tmps[64]!, a.tmps[65]!, a.tmps[66]!, a.tmps[67]!, a.tmps[68]!, a.tmps[69]!, a.tmps[70]!, a.tmps[71]!, a.tmps[72]!, a.tmps[73]!, a.tmps[74]!, a.tmps[75]!, a.tmps[76]!, a.tmps[77]!, a.tmps[78]!, a.tmps[79]!, a.tmps[80]!, a.tmps[81]!, a.tmps[82]!, a.tmps[83]!, a.tmps[84]!, a.tmps[85]!, a.tmps[86]!, a.tmps[87]!, a.tmps[88]!, a.tmps[89]!, a.tmps[90]!, a.tmps[91]!, a.tmps[92]!, a.tmps[93]!, a.tmps[94]!, a.tmps[95]!, a.tmps[96]!, a.tmps[97]!, a.tmps[98]!, a.tmps[99]!, a.tmps[100]!, a.tmps[101]!, a.tmps[102]!, a.tmps[103]!, a.tmps[104]!, a.tmps[105]!, a.tmps[106]!, a.tmps[107]!, a.tmps[108]!, a.tmps[109]!, a.tmps[110]!, a.tmps[111]!, a.tmps[112]!, a.tmps[113]!, a.tmps[114]!, a.tmps[115]!, a.tmps[116]!, a.tmps[117]!, a.tmps[118]!, undef, undef]) : MFrame T B m j X s4 s5 a :=
  ⟨fun n => a.tmps[n]!, by cases a with | mk t d => subst hd; exact congrArg (fun t' => Act.mk t' []) h⟩


set_option maxRecDepth 100000 in
set_option maxHeartbeats 4000000 in
theorem merge_calls {w : World} {base top S T Q QA B k m n0 : Nat} {so : Bool} {bc : Array Value} {lv : Value} (L0 : List Sm) (bs : List Nat) (Post : World → Prop) (hk1 : 1 ≤ k) (hk2 : k ≤ 15)
    (h : MS w base top S T Q QA B k m n0 so bc lv (L0.map smF)) (hm : bs.length = m) (hm5 : m ≤ 500) (hn : n0 + m ≤ 1200) (hb : BufIs bc (bs.map fun b => oneSmp (fN b))) (hbs : ∀ b ∈ bs, b < 2 ^ 40)
    (hL : tot L0 = n0) (hL5 : L0 ≠ [] → 500 ≤ n0) (hLb : ∀ x ∈ L0, x.v < 2 ^ 40 ∧ x.g ≤ 1200) (hLg : ∀ x ∈ L0, 1 ≤ x.g)
    (hcomp : Hid (∀ w' lv', MS w' base top S T Q QA B k m (n0 + m) so bc lv' ((Ckms.merge (Ckms.Fq k) L0 bs 0 n0).map smF) → RowKit.Below base w w' →
      Calls Try.prog 84 #[.pointer (some ⟨T, 0, none⟩)] w' fun r w'' => r = .returned (.tuple #[]) ∧ Post w'')) :
    Calls Try.prog 60 #[.pointer (some ⟨T, 0, none⟩), .slice (some ⟨B, 0, none⟩) m 500] w fun r w' => r = .returned (.tuple #[]) ∧ Post w' := by
  have Hb := Lib.hid hb
  have Hbs := Lib.hid hbs
  have H0 : Hid (MInv k n0 L0 bs 0 [] L0) := Lib.hid ⟨by simp [tot], by simp [tot, hL], hL5, by simpa using hLb, by simpa using hLg⟩
  have HM : Hid (MMem w w base top S T Q QA B k m n0 so bc lv (L0.map smF)) := Lib.hid ⟨h, RowKit.Below.refl _ _⟩
  have Hm := Lib.hid hm
  clear h hb hbs hL hL5 hLb hLg hm
  have hmi : (m : Int) ≤ 500 := by omega
  go_enter Try.func60, Try.ntmps60
  go_wp2_with fail
  go_loopw [4, 5, 11] (fun s4 s5 s11 wr => ∃ (j : Nat) (D R : List Sm) (oa : Option Addr) (oc : Nat), j ≤ m ∧ s11 = .int .i64 j ∧ s5 = .int .i64 D.length ∧ s4 = .float .f64 (floatOfInt .f64 (tot D : Int)) ∧
      Hid (MInv k n0 L0 bs j D R) ∧ Hid (MMem w wr base top S T Q QA B k m (n0 + j) so bc (.slice oa (D ++ R).length oc) ((D ++ R).map smF)))
    (fun _ _ s11 _ => m - (intOf s11).toNat)
  case atStart =>
    obtain ⟨oa, oc, hlv⟩ := own_slice HM.out.ms.own
    subst hlv
    exact ⟨0, [], L0, oa, oc, Nat.zero_le _, rfl, rfl, by rw [show (tot [] : Nat) = 0 from rfl, nan0], H0, ⟨by simpa using HM.out.ms, HM.out.bel⟩⟩
  case round =>
    obtain ⟨j, D, R, oa, oc, hj, rfl, rfl, rfl, hI, hM⟩ := hrel
    rcases Nat.lt_or_ge j m with hjm | hjm
    · have hcell : ∀ c, c < 3 → wr.cell? ⟨B, j * 3 + c, none⟩ = some (encSmp (oneSmp (fN bs[j]!)))[c]! := fun c hc => by
        have hjl : j < bs.length := by rw [Hm.out]; exact hjm
        refine cell_of hM.out.ms.str.hB ?_
        rw [some_of_get! (by rw [hM.out.ms.str.bsize]; omega), Hb.out.2 j (by simpa using hjl) c hc]
        congr 3
        rw [getElem!_pos _ j (by simpa using hjl), getElem!_pos bs j hjl]; simp
      obtain ⟨b, hb⟩ : ∃ b, b = bs[j]! := ⟨_, rfl⟩
      rw [← hb] at hcell
      have d0 : wr.cell? ⟨B, j * 3, none⟩ = some (.float .f64 (fN b).b) := hcell 0 (by omega)
      have d1 : wr.cell? ⟨B, j * 3 + 1, none⟩ = some (.float .f64 (floatOfInt .f64 ((1 : Nat) : Int))) := by rw [← fi_FX16]; exact hcell 1 (by omega)
      have d2 : wr.cell? ⟨B, j * 3 + 2, none⟩ = some (.float .f64 0) := by have := hcell 2 (by omega); rw [this]; show some (Value.float .f64 (FX 0)) = _; rw [FX_zero]
      have HB1 : Hid (b = bs[j]!) := Lib.hid hb
      clear hcell hb
      go_wp2_with fail
      obtain ⟨wo, hwo⟩ : ∃ wo : World, wo = wr := ⟨_, rfl⟩
      rw [← hwo] at hM d0 d1 d2 ⊢
      clear hwo wr
      obtain ⟨X, hX⟩ : ∃ X, X = wo.heap.size := ⟨_, rfl⟩
      obtain ⟨ln, hln⟩ : ∃ ln, ln = (D ++ R).length := ⟨_, rfl⟩
      have hXo : Hid (∀ g, (Value.slice oa ln oc).ownBlock = some g → g < X) := Lib.hid fun g hg => by rw [hX]; rw [hln] at hg; exact (hM.out.ms.own.lt g hg).2
      have hXt : Hid (top ≤ X) := Lib.hid (by rw [hX]; exact hM.out.ms.sz)
      have hXb : Hid (∀ o, RowKit.Below base w (wo.alloc o) ∧ (wo.alloc o).heap[X]? = some o) := Lib.hid fun o => ⟨hM.out.bel.alloc (by have := hM.out.ms.bt; have := hM.out.ms.sz; omega) o, by rw [hX]; exact hp_at _ _ _ rfl⟩
      rw [← hX]
      have hMa : Hid (∀ o, MS (wo.alloc o) base top S T Q QA B k m (n0 + j) so bc (.slice oa (D ++ R).length oc) ((D ++ R).map smF)) := Lib.hid fun o => hM.out.ms.alloc o
      clear hX hM d0 d1 d2
      refine wp_scope_jumps 0 (fun a' w' => ∃ (D' R' : List Sm) (oa' : Option Addr) (oc' r' : Nat), MFrame T B m j X (.float .f64 (floatOfInt .f64 (r' : Int))) (.int .i64 D'.length) a' ∧ Hid (r' + 1 = tot D') ∧ Hid (MInv k n0 L0 bs (j + 1) D' R') ∧
        Hid (MMem w w' base top S T Q QA B k m (n0 + j) so bc (.slice oa' (D' ++ R').length oc') ((D' ++ R').map smF)) ∧
        Hid (w'.heap[X]? = some (.cells #[.float .f64 (fN b).b, .float .f64 (floatOfInt .f64 1), .float .f64 0] 88))) (fun _ _ => 0) rfl ?_ ?_
      · have HI0 : Hid (∃ (D1 R1 : List Sm), D1.length = D.length ∧ (D1 ++ R1).length = ln) := Lib.hid ⟨D, R, rfl, hln.symm⟩
        have Hln := Lib.hid hln
        clear hln
        go_wp2_with fail
        go_loopw [4, 5] (fun s4 s5 wi => ∃ (D1 R1 : List Sm), s5 = .int .i64 D1.length ∧ s4 = .float .f64 (floatOfInt .f64 (tot D1 : Int)) ∧ (D1 ++ R1).length = ln ∧ Hid (MInv k n0 L0 bs j D1 R1) ∧
            Hid (MMem w wi base top S T Q QA B k m (n0 + j) so bc (.slice oa (D1 ++ R1).length oc) ((D1 ++ R1).map smF)) ∧
            Hid (wi.heap[X]? = some (.cells #[.float .f64 (fN b).b, .float .f64 (floatOfInt .f64 1), .float .f64 0] 88)))
          (fun _ s5 _ => ln - (intOf s5).toNat)
        case atStart => exact ⟨D, R, rfl, rfl, Hln.out.symm, hI, ⟨hMa.out _, (hXb.out _).1⟩, (hXb.out _).2⟩
        case round =>
          obtain ⟨D1, R1, rfl, rfl, hl1, hI1, hM1, hX1⟩ := hrel
          obtain ⟨wi, hwi⟩ : ∃ wi : World, wi = wr := ⟨_, rfl⟩
          rw [← hwi] at hM1 hX1 ⊢
          clear hwi wr
          have t1 : wi.cell? ⟨T, 1, none⟩ = some (.slice oa ln oc) := by rw [← hl1]; exact cell_of hM1.out.ms.str.hT rfl
          have hwX := hX1
          cases R1 with
          | nil =>
            obtain rfl : ln = D1.length := by simpa using hl1.symm
            clear hl1
            obtain ⟨nf, hnf⟩ : ∃ nf, Hid (nf = floatOfInt .f64 ((n0 + j : Nat) : Int)) := ⟨_, Lib.hid rfl⟩
            obtain ⟨nf', hnf'⟩ : ∃ nf', Hid (nf' = floatOfInt .f64 ((n0 + (j + 1) : Nat) : Int)) := ⟨_, Lib.hid rfl⟩
            obtain ⟨rf, hrf⟩ : ∃ rf, rf = floatOfInt .f64 ((tot D1 : Nat) : Int) := ⟨_, rfl⟩
            obtain ⟨rf', hrf'⟩ : ∃ rf', Hid (rf' = floatOfInt .f64 ((tot D1 + 1 : Nat) : Int)) := ⟨_, Lib.hid rfl⟩
            have a1 := run_fadd (x := nf) (y := floatOfInt .f64 1) (r := nf') (by rw [hnf.out, hnf'.out]; exact fi_add (n0 + j) 1 (by omega) (by omega))
            have a2 := run_fadd (x := rf) (y := floatOfInt .f64 1) (r := rf') (by rw [hrf, hrf'.out]; exact fi_add (tot D1) 1 (by have := hI1.out.2.1; omega) (by omega))
            have hTX : Hid (¬ X = T) := Lib.hid (by have := hXt.out; have := hM1.out.ms.lt.2.1; omega)
            rw [← hrf]
            have hE1 : Hid (MInv k n0 L0 bs (j + 1) (D1 ++ [(⟨b, 1, 0⟩ : Sm)]) []) := Lib.hid (MInv.last hI1.out HB1.out (by rw [Hm.out]; exact hjm) (Hbs.out b (by rw [HB1.out]; exact get_mem _ _ (by rw [Hm.out]; exact hjm))))
            clear hrf
            obtain ⟨O, hO⟩ : ∃ O : Obj, O = .cells #[.float .f64 (fN b).b, .float .f64 (floatOfInt .f64 1), .float .f64 0] 88 := ⟨_, rfl⟩
            have hM1' : MS (wi.alloc O).drew base top S T Q QA B k m (n0 + j) so bc (.slice oa D1.length oc) (D1.map smF) := by
              have := (hM1.out.ms.alloc O).drewN 1
              rw [List.append_nil] at this
              exact this
            have hown : Hid ((wi.alloc O).drew.ownsRow top 88 3 (.slice oa D1.length oc) D1.length (flatS (D1.map smF))) := Lib.hid (by have := hM1'.own; rw [List.length_map] at this; exact this)
            have hbl : RowKit.Below base w (wi.alloc O).drew := (hM1.out.bel.alloc (by have := hM1.out.ms.bt; have := hM1.out.ms.sz; omega) O).drew
            have hXa : (wi.alloc O).drew.heap[X]? = some (.cells #[.float .f64 (fN b).b, .float .f64 (floatOfInt .f64 1), .float .f64 0] 88) := at_alloc O hX1.out
            have hnews : Hid (∀ i u, [Value.float .f64 (fN b).b, .float .f64 (floatOfInt .f64 1), .float .f64 0][i]? = some u → (wi.alloc O).drew.cell? ((⟨wi.heap.size, 0, none⟩ : Addr).add i) = some u) := Lib.hid fun i u hu => by
              rw [Addr.add_lit, hO]
              refine cell_of (hp_at wi _ _ rfl) ?_
              rw [Nat.zero_add]; simpa using hu
            have hDl : D1.length ≤ 1200 := by have := len_tot D1 (fun x hx => (hI1.out.2.2.2.2 x (by simp [hx]))); have := hI1.out.2.1; omega
            have Hyp : Hid (∀ (g cap : Nat) (w1 : World), w1.ownsRow top 88 3 (.slice (some ⟨g, 0, none⟩) (D1.length + 1) cap) (D1.length + 1) (flatS (D1.map smF) ++ [Value.float .f64 (fN b).b, .float .f64 (floatOfInt .f64 1), .float .f64 0]) → (wi.alloc O).drew.grownBy w1 (Value.slice oa D1.length oc).ownBlock →
                w1.cell? ⟨T, 1, none⟩ = some (.slice oa D1.length oc) ∧ w1.frozen? ⟨T, 1, none⟩ = false ∧
                Hid (MMem w (w1.setCell ⟨T, 1, none⟩ (.slice (some ⟨g, 0, none⟩) (D1.length + 1) cap)) base top S T Q QA B k m (n0 + j) so bc (.slice (some ⟨g, 0, none⟩) ((D1 ++ [(⟨b, 1, 0⟩ : Sm)]) ++ []).length cap) (((D1 ++ [(⟨b, 1, 0⟩ : Sm)]) ++ []).map smF)) ∧
                Hid ((w1.setCell ⟨T, 1, none⟩ (.slice (some ⟨g, 0, none⟩) (D1.length + 1) cap)).heap[X]? = some (.cells #[.float .f64 (fN b).b, .float .f64 (floatOfInt .f64 1), .float .f64 0] 88))) :=
              Lib.hid fun g cap w1 ho hg => by
                have hs := hM1'.grown hg
                refine ⟨cell_of hs.hT rfl, free_of hs.hT, ?_, ?_⟩
                · have e1 := flat_new D1 b
                  have e2 : D1.length + 1 = ((((D1 ++ [(⟨b, 1, 0⟩ : Sm)]) ++ []).map smF)).length := by simp
                  have e3 : D1.length + 1 = ((D1 ++ [(⟨b, 1, 0⟩ : Sm)]) ++ []).length := by simp
                  rw [e1] at ho
                  have := hM1'.put (L' := ((D1 ++ [(⟨b, 1, 0⟩ : Sm)]) ++ []).map smF) hg (by rw [← e2]; exact ho)
                  refine ⟨by rw [← e3]; exact this, ?_⟩
                  exact (hbl.grown hg (by have := hM1'.bt; have := hM1'.sz; omega) (fun q hq => by have := (hM1'.own.lt q hq).1; have := hM1'.bt; omega)).setCell (p := ⟨T, 1, none⟩) hM1'.str.lt.2.1 _
                · exact at_set_other _ (by have := hXt.out; have := hM1'.lt.2.1; show T ≠ X; omega) (grown_at hg hXa (fun e => by have := hXo.out X e.symm; omega))
            have t1a : (wi.alloc O).cell? ⟨T, 1, none⟩ = some (.slice oa D1.length oc) := by
              have := cell_of (hM1.out.ms.alloc O).str.hT (i := 1) rfl
              rw [List.append_nil] at this; exact this
            have f0 : wi.cell? ⟨X, 0, none⟩ = _ := cell_of hX1.out rfl
            have f1 : wi.cell? ⟨X, 1, none⟩ = _ := cell_of hX1.out rfl
            have hszd : Hid ((wi.alloc O).drew.heap.size = wi.heap.size + 1) := Lib.hid (by show (wi.alloc O).heap.size = _; simp)
            have hbase : Hid (top ≤ (wi.alloc O).drew.heap.size) := Lib.hid hM1'.sz
            obtain ⟨i0, hi, hz0, hz1, hz2⟩ := info_parts info_Sample
            subst hO
            clear hM1' hbl hXa hX1 hwX hM1
            have hlen : ¬ ((D1.length : Int) < (D1.length : Int)) := by omega
            go_wp2_with fail
            go_region_law (refine step_append_lies _ rfl (.tmp 93) (.tmp 99) 80 rfl top 88 i0 _ 3 24 Try.underlying80 hi hz0 hz1 hz2 rfl (by decide) (.slice oa D1.length oc) D1.length _ (by simp [Act.eval]) hown.out ⟨wi.heap.size, 0, none⟩ 1 1 _ (by simp [Act.eval]) rfl hnews.out (by intro u hu; simp at hu; rcases hu with rfl | rfl | rfl <;> rfl) (by decide) (by unfold maxLen; omega) (by omega) hbase.out _ rfl ?_; intro g cap w1 hown1 hgrow hat hlt; obtain ⟨y1, y2, y3, y4⟩ := Hyp.out g cap w1 hown1 hgrow; clear hown1 hgrow hat hlt)
            all_goals
              obtain ⟨w2, hw2⟩ : ∃ w2 : World, w2 = w1.setCell ⟨T, 1, none⟩ (.slice (some ⟨g, 0, none⟩) (D1.length + 1) cap) := ⟨_, rfl⟩
              rw [← hw2] at y3 y4 ⊢
              clear hw2 y1 y2
              have e0 : w2.cell? ⟨T, 0, none⟩ = some (.float .f64 nf) := by rw [hnf.out]; exact cell_of y3.out.ms.str.hT rfl
              have e1 := free_of y3.out.ms.str.hT (i := 0)
              have e2 : w2.cell? ⟨X, 1, none⟩ = some (.float .f64 (floatOfInt .f64 1)) := cell_of y4.out rfl
              have e3 : (w2.setCell ⟨T, 0, none⟩ (.float .f64 nf')).cell? ⟨X, 1, none⟩ = some (.float .f64 (floatOfInt .f64 1)) := cell_of (at_set_other _ (fun h => hTX.out h.symm) y4.out) rfl
              have HMM : Hid (MMem w (w2.setCell ⟨T, 0, none⟩ (.float .f64 nf')).drew base top S T Q QA B k m (n0 + (j + 1)) so bc (.slice (some ⟨g, 0, none⟩) ((D1 ++ [(⟨b, 1, 0⟩ : Sm)]) ++ []).length cap) (((D1 ++ [(⟨b, 1, 0⟩ : Sm)]) ++ []).map smF)) := by
                rw [hnf'.out]
                exact Lib.hid (MMem.drew ⟨y3.out.ms.addN _, y3.out.bel.setCell (p := ⟨T, 0, none⟩) y3.out.ms.str.lt.2.1 _⟩)
              clear y3 y4
              go_wp2_with fail
              go_step3
              go_wp2_with fail
              go_region
              go_wp2_with fail
              simp only [Exit.jump]
              go_wp2_with fail
              go_roundw
              case rel => exact ⟨j + 1, D1 ++ [(⟨b, 1, 0⟩ : Sm)], [], some ⟨g, 0, none⟩, cap, by omega, by go_num, by rw [List.length_append]; go_num, by rw [hrf'.out]; congr 3; simp [tot_append, tot], hE1, HMM⟩
              case measure => simp [intOf]; omega
          | cons c R2 =>
            have hown := hM1.out.ms.own
            obtain ⟨g, cap, cur, q1, q2, q3, q4, q5, q6, q7⟩ : ∃ g cap cur, Value.slice oa (D1 ++ c :: R2).length oc = .slice (some ⟨g, 0, none⟩) ((D1 ++ c :: R2).map smF).length cap ∧ top ≤ g ∧ wi.heap[g]? = some (.cells cur 88) ∧ ((D1 ++ c :: R2).map smF).length ≤ cap ∧ cap ≤ maxLen ∧ cur.size = cap * 3 ∧ BufIs cur ((D1 ++ c :: R2).map smF) := by
              rcases own_open hown with ⟨_, h0⟩ | h0
              · simp at h0
              · exact h0
            obtain ⟨rfl, _, rfl⟩ : oa = some ⟨g, 0, none⟩ ∧ True ∧ oc = cap := by injection q1 with a1 a2 a3; exact ⟨a1, trivial, a3⟩
            have hcc : ∀ i, i < 3 → wi.cell? ⟨g, D1.length * 3 + i, none⟩ = some (encSmp (smF c))[i]! := fun i hi => by
              have hlt : D1.length < ((D1 ++ c :: R2).map smF).length := by simp
              refine cell_of q3 ?_
              rw [some_of_get! (by rw [q6]; simp at hlt q4; omega), q7.2 D1.length hlt i hi, getElem!_pos (List.map smF (D1 ++ c :: R2)) D1.length hlt]
              simp
            have k0 : wi.cell? ⟨g, D1.length * 3, none⟩ = some (.float .f64 (fN c.v).b) := hcc 0 (by omega)
            have k1 : wi.cell? ⟨g, D1.length * 3 + 1, none⟩ = some (.float .f64 (floatOfInt .f64 (c.g : Int))) := hcc 1 (by omega)
            have k2 : wi.cell? ⟨g, D1.length * 3 + 2, none⟩ = some (.float .f64 (floatOfInt .f64 (c.d : Int))) := hcc 2 (by omega)
            obtain ⟨hcv, hcg⟩ : c.v < 2 ^ 40 ∧ c.g ≤ 1200 := hI1.out.2.2.2.1 c (by simp)
            have hbb : b < 2 ^ 40 := Hbs.out b (by rw [HB1.out]; exact get_mem _ _ (by rw [Hm.out]; exact hjm))
            have f0a : ∀ o, (wi.alloc o).cell? ⟨X, 0, none⟩ = some (.float .f64 (fN b).b) := fun o => cell_of (at_alloc o hX1.out) rfl
            have hgt := fN_lt c.v b hcv hbb
            have hlni : (ln : Int) = (D1.length : Int) + (R2.length + 1) := by rw [← hl1]; simp
            have hlen : ((D1.length : Int) < (ln : Int)) := by omega
            have hlenN : D1.length < ln := by omega
            have hD12 : D1.length ≤ 1200 := by have := len_tot D1 (fun x hx => (hI1.out.2.2.2.2 x (by simp [hx]))); have := hI1.out.2.1; omega
            have Hq : Hid (top ≤ g ∧ wi.heap[g]? = some (.cells cur 88) ∧ ((D1 ++ c :: R2).map smF).length ≤ oc ∧ oc ≤ maxLen ∧ cur.size = oc * 3 ∧ BufIs cur ((D1 ++ c :: R2).map smF)) := Lib.hid ⟨q2, q3, q4, q5, q6, q7⟩
            have Hlni := Lib.hid hlni
            have Hl1 := Lib.hid hl1
            clear q1 q2 q3 q4 q5 q6 q7 hown hcc hlni hl1 hwX
            by_cases hlt : b < c.v
            · rw [decide_eq_true hlt] at hgt
              obtain ⟨Oc, hOc⟩ : ∃ O : Obj, O = .cells #[.float .f64 (fN c.v).b, .float .f64 (floatOfInt .f64 (c.g : Int)), .float .f64 (floatOfInt .f64 (c.d : Int))] 88 := ⟨_, rfl⟩
              obtain ⟨Oz, hOz⟩ : ∃ O : Obj, O = .cells #[.float .f64 0, .float .f64 0, .float .f64 0] 88 := ⟨_, rfl⟩
              have hMz := (hM1.out.ms.alloc Oc).alloc Oz
              have hbz : RowKit.Below base w ((wi.alloc Oc).alloc Oz) := (hM1.out.bel.alloc (by have := hM1.out.ms.bt; have := hM1.out.ms.sz; omega) Oc).alloc (by have := hM1.out.ms.bt; have := hM1.out.ms.sz; simp; omega) Oz
              have hXz : ((wi.alloc Oc).alloc Oz).heap[X]? = some (.cells #[.float .f64 (fN b).b, .float .f64 (floatOfInt .f64 1), .float .f64 0] 88) := at_alloc _ (at_alloc _ hX1.out)
              have hXlt : X < wi.heap.size := lt_of_at hX1.out
              have hgX : g < X := hXo.out g rfl
              have hown : Hid (((wi.alloc Oc).alloc Oz).ownsRow top 88 3 (.slice (some ⟨g, 0, none⟩) ln oc) ln (flatS ((D1 ++ c :: R2).map smF))) := Lib.hid (by have := hMz.own; rw [List.length_map, Hl1.out] at this; exact this)
              have hnews : Hid (∀ i u, [Value.float .f64 0, .float .f64 0, .float .f64 0][i]? = some u → ((wi.alloc Oc).alloc Oz).cell? ((⟨wi.heap.size + 1, 0, none⟩ : Addr).add i) = some u) := Lib.hid fun i u hu => by
                rw [Addr.add_lit, hOz]
                refine cell_of (hp_at (wi.alloc Oc) _ _ (by simp)) ?_
                rw [Nat.zero_add]; simpa using hu
              have hbase : Hid (top ≤ ((wi.alloc Oc).alloc Oz).heap.size) := Lib.hid hMz.sz
              have t1a : (wi.alloc Oc).cell? ⟨T, 1, none⟩ = some (.slice (some ⟨g, 0, none⟩) ln oc) := by
                have := cell_of (hM1.out.ms.alloc Oc).str.hT (i := 1) rfl
                rw [Hl1.out] at this; exact this
              have Hyp : Hid (∀ (g2 cap2 : Nat) (w1 : World), w1.ownsRow top 88 3 (.slice (some ⟨g2, 0, none⟩) (ln + 1) cap2) (ln + 1) (flatS ((D1 ++ c :: R2).map smF) ++ [Value.float .f64 0, .float .f64 0, .float .f64 0]) → ((wi.alloc Oc).alloc Oz).grownBy w1 (Value.slice (some ⟨g, 0, none⟩) ln oc).ownBlock →
                  ((Value.slice (some ⟨g, 0, none⟩) ln oc).ownBlock = some g2 ∨ g2 = ((wi.alloc Oc).alloc Oz).heap.size) →
                  w1.cell? ⟨T, 1, none⟩ = some (.slice (some ⟨g, 0, none⟩) ln oc) ∧ w1.frozen? ⟨T, 1, none⟩ = false ∧ ¬ g2 = X ∧ 
                  Hid (MMem w (w1.setCell ⟨T, 1, none⟩ (.slice (some ⟨g2, 0, none⟩) (ln + 1) cap2)) base top S T Q QA B k m (n0 + j) so bc (.slice (some ⟨g2, 0, none⟩) (ln + 1) cap2) ((D1 ++ c :: R2).map smF ++ [default])) ∧
                  Hid ((w1.setCell ⟨T, 1, none⟩ (.slice (some ⟨g2, 0, none⟩) (ln + 1) cap2)).heap[X]? = some (.cells #[.float .f64 (fN b).b, .float .f64 (floatOfInt .f64 1), .float .f64 0] 88))) :=
                Lib.hid fun g2 cap2 w1 ho hg hat => by
                  have hMz' : MS ((wi.alloc Oc).alloc Oz) base top S T Q QA B k m (n0 + j) so bc (.slice (some ⟨g, 0, none⟩) ln oc) ((D1 ++ c :: R2).map smF) := by have := hMz; rw [Hl1.out] at this; exact this
                  have hs := hMz'.grown hg
                  have hgX2 : ¬ g2 = X := by
                    rcases hat with h | h
                    · have : g = g2 := by simpa [Value.ownBlock] using h
                      omega
                    · rw [h]; simp; omega
                  refine ⟨cell_of hs.hT rfl, free_of hs.hT, hgX2, ?_, ?_⟩
                  · have e1 : flatS ((D1 ++ c :: R2).map smF) ++ [Value.float .f64 0, .float .f64 0, .float .f64 0] = flatS ((D1 ++ c :: R2).map smF ++ [default]) := by
                      rw [flatS_append]; rfl
                    have e2 : ln + 1 = ((D1 ++ c :: R2).map smF ++ [default]).length := by rw [List.length_append, List.length_map, Hl1.out]; rfl
                    rw [e1] at ho
                    have := hMz'.put (L' := (D1 ++ c :: R2).map smF ++ [default]) hg (by rw [← e2]; exact ho)
                    exact ⟨this, (hbz.grown hg (by have := hMz'.bt; have := hMz'.sz; omega) (fun q hq => by have := (hMz'.own.lt q hq).1; have := hMz'.bt; omega)).setCell (p := ⟨T, 1, none⟩) hMz'.str.lt.2.1 _⟩
                  · refine at_set_other _ (by have := hXt.out; have := hMz'.lt.2.1; show T ≠ X; omega) (grown_at hg hXz (fun e => ?_))
                    have : X = g := by simpa [Value.ownBlock] using e
                    omega
              have hln12 : ln ≤ 1200 := by
                rw [← Hl1.out]
                have := len_tot (D1 ++ c :: R2) (fun x hx => (hI1.out.2.2.2.2 x hx)); have := hI1.out.2.1; rw [tot_append] at *; omega
              obtain ⟨i0, hi, hz0, hz1, hz2⟩ := info_parts info_Sample
              subst hOc hOz
              have HgX := Lib.hid hgX
              have HXlt := Lib.hid hXlt
              clear hMz hbz hXz hX1 hM1 hgX hXlt
              go_wp2_with (first | (at_builtin; refine wpList_append_lies _ rfl (.tmp 40) (.tmp 42) 80 rfl top 88 i0 _ 3 24 Try.underlying80 hi hz0 hz1 hz2 rfl (by decide) (.slice (some ⟨g, 0, none⟩) ln oc) ln _ (by simp [Act.eval]) hown.out ⟨wi.heap.size + 1, 0, none⟩ 1 1 _ (by simp [Act.eval]) rfl hnews.out (by intro u hu; simp at hu; subst hu; rfl) (by decide) (by unfold maxLen; omega) (by omega) hbase.out _ rfl ?_; intro g2 cap2 w1 hown1 hgrow hat hlt1; obtain ⟨y1, y2, y3, y4, y5⟩ := Hyp.out g2 cap2 w1 hown1 hgrow hat; clear hown1 hgrow hat hlt1))
              obtain ⟨w2, hw2⟩ : ∃ w2 : World, w2 = w1.setCell ⟨T, 1, none⟩ (.slice (some ⟨g2, 0, none⟩) (ln + 1) cap2) := ⟨_, rfl⟩
              rw [← hw2] at y4 y5 ⊢
              clear hw2 y1 y2
              obtain ⟨cur, p1, p2, p3, p4, p5⟩ : ∃ cur, top ≤ g2 ∧ w2.heap[g2]? = some (.cells cur 88) ∧ ln + 1 ≤ cap2 ∧ cap2 ≤ maxLen ∧ (cur.size = cap2 * 3 ∧ BufIs cur ((D1 ++ c :: R2).map smF ++ [default])) := by
                have e2 : ln + 1 = ((D1 ++ c :: R2).map smF ++ [default]).length := by rw [List.length_append, List.length_map, Hl1.out]; rfl
                have ho := y4.out.ms.own
                rcases own_open ho with ⟨h0, _⟩ | ⟨g', cap', cur, q1, q2, q3, q4, q5, q6, q7⟩
                · cases h0
                · obtain ⟨rfl, rfl⟩ : g2 = g' ∧ cap2 = cap' := by injection q1 with a1 a2 a3; injection a1 with a1; injection a1 with a1; exact ⟨a1, a3⟩
                  exact ⟨cur, q2, q3, by omega, q5, q6, q7⟩
              have t2 : w2.cell? ⟨T, 1, none⟩ = some (.slice (some ⟨g2, 0, none⟩) (ln + 1) cap2) := cell_of y4.out.ms.str.hT rfl
              have hcap : D1.length + 1 < cap2 := by omega
              have hlni2 := Hlni.out
              have HP := Lib.hid (And.intro p1 (And.intro p2 (And.intro p3 (And.intro p4 p5))))
              clear p1 p2 p3 p4 p5 hlni2
              have hwr : IntKind.i64.wrap ((D1.length : Int) + 1) = (D1.length : Int) + 1 := by rw [IntKind.wrap_i64]; omega
              have hp1 : (0 : Int) ≤ (D1.length : Int) + 1 := by omega
              have hp2 : (D1.length : Int) + 1 ≤ (ln : Int) + 1 := by omega
              have hp3 : ((D1.length : Int) + 1).toNat = D1.length + 1 := by omega
              have hp4 : ¬ cap2 = D1.length + 1 := by omega
              have hp5 : ¬ cap2 = D1.length := by omega
              have hp6 : (D1.length : Int) ≤ (ln : Int) + 1 := by omega
              have hn5 : 500 ≤ n0 := hI1.out.2.2.1 (by simp)
              have hr : tot D1 ≤ n0 + j := by have := hI1.out.2.1; omega
              obtain ⟨F, hF⟩ : ∃ F, F = Ckms.Fq k (tot D1) (n0 + j) := ⟨_, rfl⟩
              have hF1 : 1 ≤ F := by rw [hF]; exact Ckms.Fq_pos hk1 hk2 _ _ hr (by omega)
              have hF8 : F ≤ 768 := by rw [hF]; exact Fq_le hk1 hk2 _ _ hr (by omega)
              obtain ⟨G, hG⟩ : ∃ G, G = gOf k (tot D1) (n0 + j) := ⟨_, rfl⟩
              have hGs := gOf_spec k (tot D1) (n0 + j) hk1 hk2 hr (by omega)
              rw [← hG, ← hF] at hGs
              have hGw : wholeOf G = F := wholeOf_between hGs.2.1 hGs.2.2 (by omega)
              obtain ⟨fF, hfF⟩ : ∃ fF, fF = floatOfInt .f64 (F : Int) := ⟨_, rfl⟩
              obtain ⟨fM, hfM⟩ : ∃ fM, fM = floatOfInt .f64 ((F - 1 : Nat) : Int) := ⟨_, rfl⟩
              have hFl : Hid (∀ w, Calls Try.prog 82 #[.float .f64 G] w fun e w' => e = .returned (.float .f64 fF) ∧ w = w') := Lib.hid fun w => by rw [hfF, ← hGw]; exact floor_calls G (by omega) w
              have hMx : Hid (∀ w, Calls Try.prog 83 #[.float .f64 0, .float .f64 fM] w fun e w' => e = .returned (.float .f64 fM) ∧ w = w') := Lib.hid fun w => by rw [hfM]; exact max_calls (F - 1) (by omega) w
              have a3 := run_fsub (x := fF) (y := 4607182418800017408) (r := fM) (by rw [hfF, hfM, ← fi_one]; exact fi_sub F 1 (by omega) hF1)
              obtain ⟨rf, hrf⟩ : ∃ rf, rf = floatOfInt .f64 ((tot D1 : Nat) : Int) := ⟨_, rfl⟩
              obtain ⟨w3, hw3⟩ : ∃ w3 : World, w3 = w2.drew.setCells g2 ((D1.length + 1) * 3) (flatS (((D1 ++ c :: R2).map smF).drop D1.length)) := ⟨_, rfl⟩
              have hg2 : top ≤ g2 := HP.out.1
              have hst3 : Strm w3 base S T Q QA B (FX (k : Int)) 4581421828931458171 m so (floatOfInt .f64 ((n0 + j : Nat) : Int)) (.slice (some ⟨g2, 0, none⟩) (ln + 1) cap2) bc := by
                have h := y4.out.ms
                obtain ⟨l1, l2, l3, l4, l5⟩ := h.lt
                have far : ∀ {b : Nat} {o : Obj}, b < top → w2.heap[b]? = some o → w3.heap[b]? = some o := fun hb ho => by rw [hw3]; exact at_sets_other (by omega) (show w2.drew.heap[_]? = _ from ho) _ _
                exact ⟨far l1 h.str.hS, far l2 h.str.hT, far l3 h.str.hQ, far l4 h.str.hQA, far l5 h.str.hB, h.str.bsize, h.str.lt, h.str.ne⟩
              have hX3 : w3.heap[X]? = some (.cells #[.float .f64 (fN b).b, .float .f64 (floatOfInt .f64 1), .float .f64 0] 88) := by rw [hw3]; exact at_sets_other y3 (show w2.drew.heap[_]? = _ from y5.out) _ _
              have hclo : Hid (Calls Try.prog 39 #[.pointer (some ⟨T, 0, none⟩), .float .f64 rf, .pointer (some ⟨Q, 0, none⟩)] w3.drew fun e w' => e = .returned (.float .f64 G) ∧ ∃ d, w' = cloW w3.drew (FX (k : Int)) 4581421828931458171 d) := Lib.hid (by
                rw [hrf, hG]; exact clo_calls k (tot D1) (n0 + j) hk1 hk2 hr (by omega) (hst3.drewN 1))
              have st1 := cell_of hst3.hT (i := 1) rfl
              have st2 := cell_of hst3.hT (i := 2) rfl
              have sx0 : w3.cell? ⟨X, 0, none⟩ = _ := cell_of hX3 rfl
              have sx1 : w3.cell? ⟨X, 1, none⟩ = _ := cell_of hX3 rfl
              have sx2 : w3.cell? ⟨X, 2, none⟩ = _ := cell_of hX3 rfl
              have cst1 := fun d => cell_of (cloW_at (w := w3.drew) hst3.hT (FX (k : Int)) 4581421828931458171 d) (i := 1) rfl
              have cst2 := fun d => cell_of (cloW_at (w := w3.drew) hst3.hT (FX (k : Int)) 4581421828931458171 d) (i := 2) rfl
              have csx0 := fun d => cell_of (cloW_at (w := w3.drew) hX3 (FX (k : Int)) 4581421828931458171 d) (i := 0) rfl
              have csx1 := fun d => cell_of (cloW_at (w := w3.drew) hX3 (FX (k : Int)) 4581421828931458171 d) (i := 1) rfl
              have csx2 := fun d => cell_of (cloW_at (w := w3.drew) hX3 (FX (k : Int)) 4581421828931458171 d) (i := 2) rfl
              have hTg : ¬ g2 = T := by have := y4.out.ms.lt.2.1; omega
              have t5 : ∀ d, ((((cloW w3.drew (FX (k : Int)) 4581421828931458171 d).setCell ⟨g2, D1.length * 3, none⟩ (.float .f64 (fN b).b)).setCell ⟨g2, D1.length * 3 + 1, none⟩ (.float .f64 (floatOfInt .f64 1))).setCell ⟨g2, D1.length * 3 + 2, none⟩ (.float .f64 fM)).heap[T]? = _ := fun d => at_set_other _ hTg (at_set_other _ hTg (at_set_other _ hTg (cloW_at (w := w3.drew) hst3.hT (FX (k : Int)) 4581421828931458171 d)))
              have x5 : ∀ d, ((((cloW w3.drew (FX (k : Int)) 4581421828931458171 d).setCell ⟨g2, D1.length * 3, none⟩ (.float .f64 (fN b).b)).setCell ⟨g2, D1.length * 3 + 1, none⟩ (.float .f64 (floatOfInt .f64 1))).setCell ⟨g2, D1.length * 3 + 2, none⟩ (.float .f64 fM)).heap[X]? = _ := fun d => at_set_other _ y3 (at_set_other _ y3 (at_set_other _ y3 (cloW_at (w := w3.drew) hX3 (FX (k : Int)) 4581421828931458171 d)))
              have est1 := fun d => cell_of (t5 d) (i := 1) rfl
              have est2 := fun d => cell_of (t5 d) (i := 2) rfl
              have esx0 := fun d => cell_of (x5 d) (i := 0) rfl
              have esx1 := fun d => cell_of (x5 d) (i := 1) rfl
              have esx2 := fun d => cell_of (x5 d) (i := 2) rfl
              clear t5 x5
              have hW5 : ∀ d, insW w2 g2 D1.length ((D1 ++ c :: R2).map smF) (FX (k : Int)) 4581421828931458171 d (smF ⟨b, 1, F - 1⟩) = ((((cloW w3.drew (FX (k : Int)) 4581421828931458171 d).setCell ⟨g2, D1.length * 3, none⟩ (.float .f64 (fN b).b)).setCell ⟨g2, D1.length * 3 + 1, none⟩ (.float .f64 (floatOfInt .f64 1))).setCell ⟨g2, D1.length * 3 + 2, none⟩ (.float .f64 fM)) := fun d => by
                have e : encSmp (smF ⟨b, 1, F - 1⟩) = [.float .f64 (fN b).b, .float .f64 (floatOfInt .f64 1), .float .f64 fM] := by
                  unfold smF encSmp
                  simp only
                  rw [← hfM, show ((1 : Nat) : Int) = 1 from rfl]
                unfold insW
                rw [← hw3, e]; rfl
              have hM5 : ∀ d, Hid (MMem w ((((cloW w3.drew (FX (k : Int)) 4581421828931458171 d).setCell ⟨g2, D1.length * 3, none⟩ (.float .f64 (fN b).b)).setCell ⟨g2, D1.length * 3 + 1, none⟩ (.float .f64 (floatOfInt .f64 1))).setCell ⟨g2, D1.length * 3 + 2, none⟩ (.float .f64 fM)) base top S T Q QA B k m (n0 + j) so bc (.slice (some ⟨g2, 0, none⟩) ((D1 ++ [(⟨b, 1, F - 1⟩ : Sm)]) ++ c :: R2).length cap2) (((D1 ++ [(⟨b, 1, F - 1⟩ : Sm)]) ++ c :: R2).map smF)) := fun d => by
                have ms := y4.out.ms
                have e : ((D1 ++ c :: R2).map smF).length = ln := by rw [List.length_map, Hl1.out]
                rw [← e] at ms
                have h1 := ms.insert (i := D1.length) (by simp) (smF ⟨b, 1, F - 1⟩) (FX (k : Int)) 4581421828931458171 d
                have h2 := insW_below (L := (D1 ++ c :: R2).map smF) (g2 := g2) y4.out.bel (by have := ms.bt; omega) (by have := ms.bt; have := ms.sz; omega) D1.length (FX (k : Int)) 4581421828931458171 d (smF ⟨b, 1, F - 1⟩)
                rw [hW5 d] at h1 h2
                have e1 : ((D1 ++ c :: R2).map smF).take D1.length ++ smF ⟨b, 1, F - 1⟩ :: ((D1 ++ c :: R2).map smF).drop D1.length = ((D1 ++ [(⟨b, 1, F - 1⟩ : Sm)]) ++ c :: R2).map smF := by simp
                have e2 : ((D1 ++ c :: R2).map smF).length + 1 = ((D1 ++ [(⟨b, 1, F - 1⟩ : Sm)]) ++ c :: R2).length := by simp; omega
                rw [e1, e2] at h1
                exact Lib.hid ⟨h1, h2⟩
              have hX5 : ∀ d, Hid (((((cloW w3.drew (FX (k : Int)) 4581421828931458171 d).setCell ⟨g2, D1.length * 3, none⟩ (.float .f64 (fN b).b)).setCell ⟨g2, D1.length * 3 + 1, none⟩ (.float .f64 (floatOfInt .f64 1))).setCell ⟨g2, D1.length * 3 + 2, none⟩ (.float .f64 fM)).heap[X]? = some (.cells #[.float .f64 (fN b).b, .float .f64 (floatOfInt .f64 1), .float .f64 0] 88)) := fun d => Lib.hid (at_set_other _ y3 (at_set_other _ y3 (at_set_other _ y3 (cloW_at (w := w3.drew) hX3 (FX (k : Int)) 4581421828931458171 d))))
              have hI5 : Hid (MInv k n0 L0 bs (j + 1) (D1 ++ [(⟨b, 1, F - 1⟩ : Sm)]) (c :: R2)) := Lib.hid (by rw [hF]; exact MInv.ins hI1.out HB1.out (by rw [Hm.out]; exact hjm) hbb hlt)
              have HM5 := Lib.hid hM5
              have HX5 := Lib.hid hX5
              clear hW5 hM5 hX5
              obtain ⟨p1, p2, p3, p4, p5, p6⟩ := HP.out
              have hLd : ((D1 ++ c :: R2).map smF).drop D1.length = (c :: R2).map smF := by rw [List.map_append]; simp
              have hcsl : (flatS (((D1 ++ c :: R2).map smF).drop D1.length)).length = (ln - D1.length) * 3 := by rw [flatS_len, hLd, List.length_map]; have := Hlni.out; simp; omega
              have hcs : Hid ((flatS (((D1 ++ c :: R2).map smF).drop D1.length)).length = Nat.min (ln + 1 - D1.length) (ln - D1.length) * 3) := Lib.hid (by rw [hcsl, show Nat.min (ln + 1 - D1.length) (ln - D1.length) = ln - D1.length from Nat.min_eq_right (by omega)])
              have hsrc : Hid (∀ i v, (flatS (((D1 ++ c :: R2).map smF).drop D1.length))[i]? = some v → w2.drew.cell? ((⟨g2, D1.length * 3, none⟩ : Addr).add i) = some v) := Lib.hid fun i v hv => by
                rw [Addr.add_lit]
                rw [hLd] at hv
                refine cell_of (show w2.drew.heap[g2]? = _ from p2) ?_
                have hp : BufIs cur (D1.map smF ++ (c :: R2).map smF ++ [default]) := by rw [← List.map_append]; exact p6
                have := hp.part i v hv
                rwa [List.length_map] at this
              have hdst : Hid (∀ i, i < (flatS (((D1 ++ c :: R2).map smF).drop D1.length)).length → (w2.drew.cell? ⟨g2, (D1.length + 1) * 3 + i, none⟩).isSome = true) := Lib.hid fun i hi => by
                rw [hcsl] at hi
                rw [cell_of (show w2.drew.heap[g2]? = _ from p2) (some_of_get! (by omega))]; rfl
              have hfz : Hid (∀ i, i < (flatS (((D1 ++ c :: R2).map smF).drop D1.length)).length → w2.drew.frozen? ⟨g2, (D1.length + 1) * 3 + i, none⟩ = false) := Lib.hid fun i _ => free_of (show w2.drew.heap[g2]? = _ from p2)
              have hone := Lib.hid (flatS_one_cell (((D1 ++ c :: R2).map smF).drop D1.length))
              have hsz3 : Hid ((Try.prog.info? 88).map (·.size) = some 3) := Lib.hid (by kernel_rfl)
              have hrow : ∀ d, ∃ cu, (cloW w3.drew (FX (k : Int)) 4581421828931458171 d).heap[g2]? = some (.cells cu 88) ∧ cu.size = cap2 * 3 := fun d => by
                have h3 : w3.heap[g2]? = some (.cells (setMany cur ((D1.length + 1) * 3) (flatS (((D1 ++ c :: R2).map smF).drop D1.length))) 88) := by rw [hw3]; exact at_sets (show w2.drew.heap[g2]? = _ from p2) _ _
                exact ⟨_, cloW_at (w := w3.drew) h3 _ _ d, by rw [size_setMany]; exact p5⟩
              have hv : ∀ d i, i < 3 → (cloW w3.drew (FX (k : Int)) 4581421828931458171 d).cell? ⟨g2, D1.length * 3 + i, none⟩ = some (((cloW w3.drew (FX (k : Int)) 4581421828931458171 d).cell? ⟨g2, D1.length * 3 + i, none⟩).getD undef) ∧ (cloW w3.drew (FX (k : Int)) 4581421828931458171 d).frozen? ⟨g2, D1.length * 3 + i, none⟩ = false := fun d i hi => by
                obtain ⟨cu, h1, h2⟩ := hrow d
                rw [cell_of h1 (some_of_get! (by omega))]
                exact ⟨rfl, free_of h1⟩
              have Hv := Lib.hid hv
              have HW3 := Lib.hid hw3
              have HG := Lib.hid hG
              have HF := Lib.hid hF
              have HfM := Lib.hid hfM
              have Hst3 := Lib.hid hst3
              have HX3 := Lib.hid hX3
              have Hg2 := Lib.hid hg2
              have HFb := Lib.hid (And.intro hF1 hF8)
              rw [← hrf]
              have Hrf := Lib.hid hrf
              clear hrf hGs hGw hfF hfM hG hF hst3 hX3 hw3 hcsl hLd p1 p2 p3 p4 p5 p6 hrow hv hg2 hF1 hF8
              go_still_tail 13, (by kernel_rfl)
              change wpList _ _ _ _ _ w2.drew
              refine wpList_copy_k rfl (.tmp 52) (.tmp 58) 80 80 rfl 88 3 Try.underlying80 hsz3.out g2 ((D1.length + 1) * 3) (ln - D1.length) (cap2 - (D1.length + 1)) ⟨g2, D1.length * 3, none⟩ (ln + 1 - D1.length) (cap2 - D1.length) (by simp [Act.eval]) (by simp [Act.eval]) _ hcs.out hsrc.out hdst.out hfz.out hone.out ?_
              rw [← HW3.out]
              obtain ⟨f0, v0⟩ : ∃ f : Nat → Value, ∀ d, (cloW w3.drew (FX (k : Int)) 4581421828931458171 d).cell? ⟨g2, D1.length * 3, none⟩ = some (f d) := ⟨_, fun d => (Hv.out d 0 (by omega)).1⟩
              obtain ⟨f1, v1⟩ : ∃ f : Nat → Value, ∀ d, (cloW w3.drew (FX (k : Int)) 4581421828931458171 d).cell? ⟨g2, D1.length * 3 + 1, none⟩ = some (f d) := ⟨_, fun d => (Hv.out d 1 (by omega)).1⟩
              obtain ⟨f2, v2⟩ : ∃ f : Nat → Value, ∀ d, (cloW w3.drew (FX (k : Int)) 4581421828931458171 d).cell? ⟨g2, D1.length * 3 + 2, none⟩ = some (f d) := ⟨_, fun d => (Hv.out d 2 (by omega)).1⟩
              have z0 : ∀ d, (cloW w3.drew (FX (k : Int)) 4581421828931458171 d).frozen? ⟨g2, D1.length * 3, none⟩ = false := fun d => (Hv.out d 0 (by omega)).2
              have z1 := fun d => (Hv.out d 1 (by omega)).2
              have z2 := fun d => (Hv.out d 2 (by omega)).2
              have hx2 : (D1.length : Int) < (ln : Int) + 1 := by omega
              have hx1 : (0 : Int) ≤ (D1.length : Int) := by omega
              go_wp2_with fail
              go_region_held3 (fun w' => w'.cell? ⟨T, 1, none⟩ = some (.slice (some ⟨g2, 0, none⟩) (ln + 1) cap2) ∧ w'.cell? ⟨T, 2, none⟩ = some (.func (.func 39) #[] #[.pointer (some ⟨Q, 0, none⟩)]) ∧ w'.cell? ⟨X, 0, none⟩ = some (.float .f64 (fN b).b) ∧ w'.cell? ⟨X, 1, none⟩ = some (.float .f64 (floatOfInt .f64 1)) ∧ w'.cell? ⟨X, 2, none⟩ = some (.float .f64 0))
                (first | exact ⟨st1, st2, sx0, sx1, sx2⟩ | exact ⟨cst1 _, cst2 _, csx0 _, csx1 _, csx2 _⟩ | exact ⟨est1 _, est2 _, esx0 _, esx1 _, esx2 _⟩)
                (first
                  | (go_at_call 39; refine hclo.out.mono ?_; rintro e w' ⟨rfl, dd, rfl⟩)
                  | (go_at_call 82; refine (hFl.out _).mono ?_; rintro e w' ⟨rfl, rfl⟩)
                  | (go_at_call 83; refine (hMx.out _).mono ?_; rintro e w' ⟨rfl, rfl⟩))
              go_wp2_with fail
              go_step3
              refine ⟨rfl, D1 ++ [(⟨b, 1, F - 1⟩ : Sm)], c :: R2, some ⟨g2, 0, none⟩, cap2, tot D1, ?_, Lib.hid (by rw [tot_append]; simp [tot]), hI5, HM5.out _, HX5.out _⟩
              rw [← Hrf.out, show (((D1 ++ [(⟨b, 1, F - 1⟩ : Sm)]).length : Nat) : Int) = (D1.length : Int) + 1 by simp]
              exact MFrame.of _ rfl rfl
            · rw [decide_eq_false hlt] at hgt
              obtain ⟨rf, hrf⟩ : ∃ rf, rf = floatOfInt .f64 ((tot D1 : Nat) : Int) := ⟨_, rfl⟩
              obtain ⟨rf', hrf'⟩ : ∃ rf', Hid (rf' = floatOfInt .f64 ((tot (D1 ++ [c]) : Nat) : Int)) := ⟨_, Lib.hid rfl⟩
              have a2 := run_fadd (x := rf) (y := floatOfInt .f64 (c.g : Int)) (r := rf') (by rw [hrf, hrf'.out, show tot (D1 ++ [c]) = tot D1 + c.g by rw [tot_append]; simp [tot]]; exact fi_add (tot D1) c.g (by have := hI1.out.2.1; omega) (by omega))
              rw [← hrf]
              clear hrf
              have hXo2 : ∀ o, Hid ((wi.alloc o).heap[X]? = some (.cells #[.float .f64 (fN b).b, .float .f64 (floatOfInt .f64 1), .float .f64 0] 88)) := fun o => Lib.hid (at_alloc o hX1.out)
              have hM3 : ∀ o, Hid (MMem w (wi.alloc o) base top S T Q QA B k m (n0 + j) so bc (.slice (some ⟨g, 0, none⟩) ((D1 ++ [c]) ++ R2).length oc) (((D1 ++ [c]) ++ R2).map smF)) := fun o => Lib.hid (by
                rw [List.append_assoc]
                exact ⟨hM1.out.ms.alloc o, hM1.out.bel.alloc (by have := hM1.out.ms.bt; have := hM1.out.ms.sz; omega) o⟩)
              have hI3 : Hid (MInv k n0 L0 bs j (D1 ++ [c]) R2) := Lib.hid (MInv.skip hI1.out HB1.out (by rw [Hm.out]; exact hjm) hlt)
              have HX3 := Lib.hid hXo2
              have HM3 := Lib.hid hM3
              clear hXo2 hM3 hX1 hM1
              go_wp2_with fail
              go_roundw
              case rel => exact ⟨D1 ++ [c], R2, by rw [List.length_append]; go_num, by rw [hrf'.out], by rw [List.append_assoc]; exact Hl1.out, hI3, HM3.out _, HX3.out _⟩
              case measure => simp [intOf]; omega
      · rintro a' w' ⟨D', R', oa', oc', r', ⟨u, rfl⟩, hr, hE, hM, hXX⟩
        obtain ⟨nf, hnf⟩ : ∃ nf, nf = floatOfInt .f64 ((n0 + j : Nat) : Int) := ⟨_, rfl⟩
        obtain ⟨nf', hnf'⟩ : ∃ nf', nf' = floatOfInt .f64 ((n0 + (j + 1) : Nat) : Int) := ⟨_, rfl⟩
        obtain ⟨rf, hrf⟩ : ∃ rf, rf = floatOfInt .f64 ((r' : Nat) : Int) := ⟨_, rfl⟩
        obtain ⟨rf', hrf'⟩ : ∃ rf', rf' = floatOfInt .f64 ((tot D' : Nat) : Int) := ⟨_, rfl⟩
        have e0 : w'.cell? ⟨T, 0, none⟩ = some (.float .f64 nf) := by rw [hnf]; exact cell_of hM.out.ms.str.hT rfl
        have e1 := free_of hM.out.ms.str.hT (i := 0)
        have e2 : w'.cell? ⟨X, 1, none⟩ = _ := cell_of hXX.out rfl
        have hb2 : r' ≤ 1200 := by have := hr.out; have := hE.out.2.1; omega
        have a1 := run_fadd (x := nf) (y := floatOfInt .f64 1) (r := nf') (by rw [hnf, hnf']; exact fi_add (n0 + j) 1 (by omega) (by omega))
        have a2 := run_fadd (x := rf) (y := floatOfInt .f64 1) (r := rf') (by rw [hrf, hrf', ← hr.out]; exact fi_add r' 1 (by omega) (by omega))
        have hXt' := hXt.out
        have hTX : ¬ X = T := by have := hM.out.ms.lt.2.1; omega
        have e3 : (w'.setCell ⟨T, 0, none⟩ (.float .f64 nf')).cell? ⟨X, 1, none⟩ = some (.float .f64 (floatOfInt .f64 1)) := cell_of (at_set_other _ (fun h => hTX h.symm) hXX.out) rfl
        have HMM : Hid (MMem w (w'.setCell ⟨T, 0, none⟩ (.float .f64 nf')) base top S T Q QA B k m (n0 + (j + 1)) so bc (.slice oa' (D' ++ R').length oc') ((D' ++ R').map smF)) := by
          rw [hnf']
          exact ⟨hM.out.ms.addN _, hM.out.bel.setCell (p := ⟨T, 0, none⟩) hM.out.ms.str.lt.2.1 _⟩
        rw [← hrf]
        have Hrf' := Lib.hid hrf'
        clear hnf hnf' hrf hM hXX hr hXt' hrf'
        go_wp2_with fail
        go_region
        go_wp2_with fail
        simp only [Exit.jump]
        go_wp2_with fail
        go_roundw
        case rel => exact ⟨j + 1, D', R', oa', oc', by omega, by go_num, rfl, by rw [← Hrf'.out], hE, Lib.hid HMM.out.drew⟩
        case measure => simp [intOf]; omega
    · obtain rfl : j = m := by omega
      have hc : Calls Try.prog 84 #[.pointer (some ⟨T, 0, none⟩)] wr fun r w'' => r = .returned (.tuple #[]) ∧ Post w'' := by
        obtain ⟨i1, i2, i3, i4, i5⟩ := hI.out
        rw [show bs.drop j = [] by rw [List.drop_eq_nil_iff]; rw [Hm.out]; exact Nat.le_refl _] at i1
        have e : Ckms.merge (Ckms.Fq k) R [] (tot D) (n0 + j) = R := by unfold Ckms.merge; rfl
        rw [e] at i1
        have := hM.out.ms
        rw [i1] at this
        exact hcomp.out wr _ this hM.out.bel
      have Hc := Lib.hid hc
      clear hc
      go_wp2_with (go_at_call 84; refine Hc.out.mono ?_; rintro r w'' ⟨rfl, hP⟩)
      go_end0
      exact ⟨rfl, hP⟩
end Go.Proofs.Ythcgojhfbcgaiaa
