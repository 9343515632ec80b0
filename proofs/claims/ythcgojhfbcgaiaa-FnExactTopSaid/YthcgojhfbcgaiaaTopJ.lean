/- impl.Top. Conditions: the words lie in memory, of at most k kinds. -/
import Derived.Test.YthcgojhfbcgaiaaTopI
namespace Go.Proofs.Ythcgojhfbcgaiaa
open Go.RowKit Go.Maps Go.Sort Go.Proofs

/-- A row of counts. -/
def IRow (w : World) (oa : Option Addr) (f : Nat → Nat) (n : Nat) : Prop := 0 < n → ∃ g, oa = some ⟨g, 0, none⟩ ∧ g < w.heap.size ∧ ∀ i, i < n → w.cell? ⟨g, i, none⟩ = some (.int .i64 (f i : Int))
/-- The state of the stream after some words. -/
def Told (w0 w : World) (base t M Z k i : Nat) (ws : List Word) : Prop := ∃ D n AL, Str w base t M Z k n D AL ∧ RowKit.Below base w0 w ∧ n ≤ i ∧ Cnt AL ws
theorem Told.step {w0 w : World} {base t M Z k i : Nat} {ws KW : List Word} {s : Word} (h : Told w0 w base t M Z k i ws) (hs : s.length ≤ maxLen) (hi : i ≤ 1000) (hK : ∀ s ∈ ws, s ∈ KW) (hl : KW.length ≤ k) (hk8 : k ≤ 8) (hw : ws.length ≤ 1000) :
    Calls Try.prog 31 #[.pointer (some ⟨t, 0, none⟩), strV s] w fun e w' => e = .returned (.tuple #[]) ∧ Hid (Told w0 w' base t M Z k (i + 1) (ws ++ [s])) := by
  obtain ⟨D, n, AL, h1, h2, h3, h4⟩ := h
  have hlen := h4.len h1.nodup hK
  refine (Insert_calls h1 h2 hs (by omega) (by omega) (by omega) (fun x hx => ?_)).mono fun e w' ⟨a, b⟩ => ⟨a, Lib.hid ?_⟩
  · rw [(h4.1 x hx).1]
    exact Nat.le_trans List.count_le_length (by omega)
  · obtain ⟨D', n', AL', q1, q2, q3, q4⟩ := b.out
    exact ⟨D', n', AL', q1, q2, by omega, h4.step q4⟩

def cnts (EL : List Ent) : List (Word × Int) := EL.map fun x => (x.1, (x.2.2 : Int))
theorem cnts_words (EL : List Ent) : (cnts EL).map (·.1) = words EL := by simp [cnts, words]
theorem cnts_step {EL : List Ent} (hn : (words EL).Nodup) {j : Nat} (hj : j < EL.length) {w : World} {R : Value → Option (Du × List MemPlace)} {B n : Nat} {D : Du} (ho : w.ownsMap Try.prog 9 R B n D) (hM : Mp D (cnts (EL.take j))) :
    Mp (D.put (.string EL[j].1) (.lit (.int .i64 (EL[j].2.2 : Int)))) (cnts (EL.take (j + 1))) := by
  have h1 : cnts (EL.take (j + 1)) = cnts (EL.take j) ++ [(EL[j].1, (EL[j].2.2 : Int))] := by
    unfold cnts; rw [List.take_succ_eq_append_getElem hj, List.map_append]; rfl
  rw [h1]
  refine hM.put (ho.tidy lawS) ?_ _
  rw [cnts_words]
  have h2 : words (EL.take (j + 1)) = words (EL.take j) ++ [EL[j].1] := by unfold words; rw [List.take_succ_eq_append_getElem hj, List.map_append]; rfl
  have h3 : (words (EL.take (j + 1))).Nodup := by
    have : (words (EL.take (j + 1))).Sublist (words EL) := (List.take_sublist _ _).map _
    exact this.nodup hn
  rw [h2] at h3
  exact fun hm => (List.nodup_append.1 h3).2.2 _ hm _ (List.mem_singleton.2 rfl) rfl
theorem cell_map {w : World} {k : TypeId} {R : Value → Option (Du × List MemPlace)} {B n j : Nat} {D : Du} (ho : w.ownsMap Try.prog k R B n D) : w.cell? ⟨B, j, none⟩ = none := by
  obtain ⟨es, clock, hb, _⟩ := ho
  unfold World.cell?; rw [hb]
/-- What stands when Query has answered. -/
structure Asked (w0 w2 : World) (base B : Nat) (EL : List Ent) (oq : Option Addr) (ws : List Word) : Prop where
  ents : ∀ i (hi : i < EL.length), ElAt w2 EL[i].2.1 EL[i].1 EL[i].2.2 ∧ ∃ g, oq = some ⟨g, 0, none⟩ ∧ g < w2.heap.size ∧ w2.cell? ⟨g, i, none⟩ = some (.pointer (some ⟨EL[i].2.1, 0, none⟩))
  map : w2.ownsMap Try.prog 9 (plainElem Try.prog 3) B 0 (.map [] : Du)
  cnt : Cnt EL ws
  nod : (words EL).Nodup
  below : RowKit.Below base w0 w2
  hB : base ≤ B
  sz : base ≤ w2.heap.size
theorem asked {w0 wr w2 : World} {base t M Z k n : Nat} {D : Du} {AL : List Ent} {ws : List Word} {oq : Option Addr} (h : Str wr base t M Z k n D AL) (hb : RowKit.Below base w0 wr) (hc : Cnt AL ws) (hq : QOut (wr.alloc (.map #[] 0)) w2 AL oq) :
    ∃ EL : List Ent, EL.length = AL.length ∧ Asked w0 w2 base wr.heap.size EL oq ws := by
  obtain ⟨EL, h1, h2⟩ := hq.ents (h.alloc _)
  have hw : (words EL).Perm (words AL) := h1.map _
  have hA := hb.alloc h.sz (.map #[] 0)
  refine ⟨EL, h1.length_eq, h2, ownsMap_at (World.ownsMap_made wr Try.prog 9 (plainElem Try.prog 3)) (hq.1.block _ (by simp)), ⟨fun x hx => hc.1 x (h1.mem_iff.1 hx), fun s hs => hw.mem_iff.2 (hc.2 s hs)⟩, hw.nodup_iff.2 h.nodup, hA.trans (hq.1.mono (by have := h.sz; simp; omega)), h.sz, by have := hq.1.size; have := h.sz; simp at *; omega⟩

/-- What the loop over the answer keeps. -/
def Laid (w2 wr : World) (B j : Nat) (EL : List Ent) : Prop := ∃ (D : Du) (n : Nat), wr.ownsMap Try.prog 9 (plainElem Try.prog 3) B n D ∧ Mp D (cnts (EL.take j)) ∧ w2.grownBy wr (some B) ∧ n ≤ j
theorem Laid.start {w0 w2 : World} {base B : Nat} {EL : List Ent} {oq : Option Addr} {ws : List Word} (h : Asked w0 w2 base B EL oq ws) : Laid w2 w2 B 0 EL :=
  ⟨_, 0, h.map, Mp.nil, ⟨rfl, rfl, rfl, Nat.le_refl _, fun _ _ _ => rfl⟩, Nat.le_refl _⟩
theorem Laid.read {w0 w2 wr : World} {base B j : Nat} {EL : List Ent} {oq : Option Addr} {ws : List Word} (h : Asked w0 w2 base B EL oq ws) (hL : Laid w2 wr B j EL) (hj : j < EL.length) :
    ElAt wr EL[j].2.1 EL[j].1 EL[j].2.2 ∧ ∃ g, oq = some ⟨g, 0, none⟩ ∧ wr.cell? ⟨g, j, none⟩ = some (.pointer (some ⟨EL[j].2.1, 0, none⟩)) := by
  obtain ⟨D, n, h1, h2, h3, h4⟩ := hL
  obtain ⟨e1, g, e2, e3, e4⟩ := h.ents j hj
  refine ⟨grown_at h3 e1 (fun e => ne_map e1 h.map (by injection e with e; exact e.symm)), g, e2, ?_⟩
  rw [World.cell?_of_block (w := w2) (a := ⟨g, j, none⟩) (h3.block g e3 (fun e => ?_))]
  · exact e4
  · have : g = B := by injection e
    rw [this, cell_map h.map] at e4; cases e4
theorem Laid.step {w0 w2 wr w3 : World} {base B j : Nat} {EL : List Ent} {oq : Option Addr} {ws : List Word} (h : Asked w0 w2 base B EL oq ws) {D : Du} {n : Nat} (h1 : wr.ownsMap Try.prog 9 (plainElem Try.prog 3) B n D) (h2 : Mp D (cnts (EL.take j))) (h3 : w2.grownBy wr (some B)) (h4 : n ≤ j) (hj : j < EL.length)
    (ho : w3.ownsMap Try.prog 9 (plainElem Try.prog 3) B (n + 1) (D.put (.string EL[j].1) (.lit (.int .i64 (EL[j].2.2 : Int))))) (hg : wr.drew.grownBy w3 (some B)) : Laid w2 w3 B (j + 1) EL :=
  ⟨_, n + 1, ho, cnts_step h.nod hj h1 h2, (grown_drew h3).andThen hg fun q hq => .inr hq, by omega⟩
/-- The names collected, sorted. -/
theorem names_sorted {w0 w2 w3 wr : World} {base B : Nat} {EL : List Ent} {oq : Option Addr} {ws : List Word} (h : Asked w0 w2 base B EL oq ws) {n : Nat} {D : Du} {CL : List Word} {left : Lit → Bool} {cnt : Nat} {v : Value} (hC : ColN w3 wr B n D (words EL) CL [] left cnt v) : CL.mergeSort leW = Lib.compact (ws.mergeSort leW) := by
  have hp : CL.Perm (words EL) := by have := hC.perm; rwa [List.append_nil] at this
  refine names_eq (hp.nodup_iff.2 h.nod) fun s => ?_
  rw [hp.mem_iff]
  constructor
  · intro hs
    obtain ⟨x, hx, rfl⟩ := List.mem_map.1 hs
    exact (h.cnt.1 x hx).2
  · exact h.cnt.2 s
theorem look_cnt {w0 w2 : World} {base B : Nat} {EL : List Ent} {oq : Option Addr} {ws : List Word} (h : Asked w0 w2 base B EL oq ws) {D : Du} (hM : Mp D (cnts EL)) {s : Word} (hs : s ∈ ws) (z : Du) : D.atKey (.string s) z = .lit (.int .i64 (ws.count s : Int)) := by
  obtain ⟨x, hx, rfl⟩ := List.mem_map.1 (h.cnt.2 s hs)
  rw [← (h.cnt.1 x hx).1]
  exact hM.val (x.1, (x.2.2 : Int)) (List.mem_map.2 ⟨x, hx, rfl⟩) z

def cntL (S ws : List Word) (j : Nat) : List Value := (List.range j).map fun i => .int .i64 (ws.count S[i]! : Int)
theorem own_irow {w : World} {base n c : Nat} {oa : Option Addr} {S ws : List Word} (h : w.ownsRow base 3 1 (.slice oa n c) n (cntL S ws n)) : IRow w oa (fun i => ws.count S[i]!) n := fun h0 => by
  rcases h.2 with ⟨h1, h2⟩ | ⟨g, cap, cur, h1, h2, h3, h4, h5, h6, h7⟩
  · omega
  · obtain ⟨rfl, _, rfl⟩ : oa = some ⟨g, 0, none⟩ ∧ True ∧ c = cap := by injection h1 with a1 a2 a3; exact ⟨a1, trivial, a3⟩
    refine ⟨g, rfl, lt_of_at h3, fun i hi => cell_of h3 ?_⟩
    rw [Nat.mul_one] at h7
    have := congrArg (fun l => l[i]?) h7
    simp only [List.getElem?_take_of_lt hi, cntL, List.getElem?_map, List.getElem?_range hi, Option.map_some, Array.getElem?_toList] at this
    exact this
theorem cntL_succ (S ws : List Word) (j : Nat) : cntL S ws (j + 1) = cntL S ws j ++ [.int .i64 (ws.count S[j]! : Int)] := by simp [cntL, List.range_succ]

set_option maxHeartbeats 4000000 in
set_option maxRecDepth 100000 in
theorem Top_calls {w : World} {base0 c k : Nat} {oa : Option Addr} {ws KW : List Word} (h : HRow w base0 oa ws) (hN : ws.length ≤ 1000) (hK : ∀ s ∈ ws, s ∈ KW) (hl : KW.length ≤ k) (hk8 : k ≤ 8) (hlen : ∀ s ∈ ws, s.length ≤ maxLen) :
    Calls Try.prog 17 #[.slice oa ws.length c, .int .i64 k] w fun e w' => ∃ oa1 c1 oa2 c2, e = .returned (.tuple #[.slice oa1 (Lib.compact (ws.mergeSort leW)).length c1, .slice oa2 (Lib.compact (ws.mergeSort leW)).length c2]) ∧
      Hid (HRow w' w.heap.size oa1 (Lib.compact (ws.mergeSort leW)) ∧ IRow w' oa2 (fun i => ws.count (Lib.compact (ws.mergeSort leW))[i]!) (Lib.compact (ws.mergeSort leW)).length ∧ RowKit.Below w.heap.size w w') := by
  have hnew := Lib.hid (New_calls (k := k) (RowKit.Below.refl w.heap.size w) (Nat.le_refl _))
  have hmm := @run_makeMap Try.prog
  obtain ⟨S, hS⟩ : ∃ S, S = Lib.compact (ws.mergeSort leW) := ⟨_, rfl⟩
  obtain ⟨N, hNn⟩ : ∃ N, N = ws.length := ⟨_, rfl⟩
  rw [← hS, ← hNn]
  have HS := Lib.hid hS
  have HN := Lib.hid hNn
  have hNi : (N : Int) ≤ 1000 := by omega
  have HNl : Hid (N ≤ 1000) := Lib.hid (by omega)
  have hki : (k : Int) ≤ 8 := by omega
  have HK := Lib.hid hK
  have HL := Lib.hid hl
  have Hk8 := Lib.hid hk8
  have Hlen := Lib.hid hlen
  have H := Lib.hid h
  clear h hN hK hl hk8 hlen hS hNn
  go_enter Try.func17, Try.ntmps17
  go_wp2_with (go_at_call 30; refine hnew.out.mono ?_; rintro e w1 ⟨t, rfl, hT0⟩)
  obtain ⟨M, Z, hT1, hT2⟩ := hT0.out
  have hT3 : Hid (Told w w1 w.heap.size t M Z k 0 []) := Lib.hid ⟨_, 0, [], hT1, hT2, Nat.le_refl _, Cnt.nil⟩
  clear hT0 hT1 hT2 hnew
  go_loopw [21] (fun s21 wr => ∃ i : Nat, s21 = .int .i64 i ∧ Hid (i ≤ N) ∧ Hid (Told w wr w.heap.size t M Z k i (ws.take i))) (fun s21 _ => N - (intOf s21).toNat)
  case atStart => exact ⟨0, by go_num, Lib.hid (Nat.zero_le _), by simpa using hT3⟩
  case round =>
    obtain ⟨i, rfl, hi, hT⟩ := hrel
    rcases Nat.lt_or_ge i N with hlt | hge
    · have hiw : i < ws.length := by rw [← HN.out]; exact hlt
      obtain ⟨g, hg1, hg2, hg3⟩ := H.out.cell i hiw
      obtain ⟨D, n, AL, q1, q2, q3, q4⟩ := hT.out
      have hcell : wr.cell? ⟨g, i, none⟩ = some (strV ws[i]) := (q2.cell (p := ⟨g, i, none⟩) hg3).trans hg2
      have hsm : ws[i] ∈ ws := List.getElem_mem hiw
      have hins := Lib.hid (hT.out.step (s := ws[i]) (Hlen.out _ hsm) (by have := HNl.out; omega) (fun s hs => HK.out s (List.take_subset _ _ hs)) HL.out Hk8.out (by have := HNl.out; have := HN.out; simp; omega))
      rw [show ws.take i ++ [ws[i]] = ws.take (i + 1) by rw [List.take_succ_eq_append_getElem hiw]] at hins
      obtain ⟨s, hs⟩ : ∃ s, s = ws[i] := ⟨_, rfl⟩
      rw [← hs] at hcell hins
      subst hg1
      have hii : (i : Int) < (N : Int) := by omega
      have hi1 : Hid (i + 1 ≤ N) := Lib.hid hlt
      clear hg2 hg3 q1 q2 q3 q4 hsm hs hiw
      go_wp2_with (go_at_call 31; refine hins.out.mono ?_; rintro e w2 ⟨rfl, hT4⟩)
      go_roundw
      case rel => exact ⟨i + 1, by go_num, hi1, hT4⟩
      case measure => simp [intOf]; omega
    · obtain rfl : i = N := by have := hi.out; omega
      have hT5 : Hid (Told w wr w.heap.size t M Z k i ws) := Lib.hid (by have := hT.out; rw [HN.out, List.take_length] at this; rw [HN.out]; exact this)
      clear hT hT3 hi hge
      obtain ⟨D, n, AL, q1, q2, q3, q4⟩ := hT5.out
      have hAL := q4.len q1.nodup HK.out
      have hQ := Lib.hid (Query_calls (q1.alloc (.map #[] 0)) (by have := HL.out; omega) Hk8.out)
      have hAsk : Hid (∀ w2 oq, QOut (wr.alloc (.map #[] 0)) w2 AL oq → ∃ EL : List Ent, EL.length = AL.length ∧ Asked w w2 w.heap.size wr.heap.size EL oq ws) := Lib.hid fun w2 oq hq => asked q1 q2 q4 hq
      obtain ⟨m, hm⟩ : ∃ m, m = AL.length := ⟨_, rfl⟩
      rw [← hm] at hQ hAsk
      have hm8 : m ≤ 8 := by have := HL.out; have := Hk8.out; omega
      have Hm8 := Lib.hid hm8
      have hm8i : (m : Int) ≤ 8 := by omega
      obtain ⟨B, hB⟩ : ∃ B, B = wr.heap.size := ⟨_, rfl⟩
      clear q1 q2 q3 q4 hAL hm hT5 HK HL Hk8 H hm8
      go_wp2_with (go_at_call 32; refine hQ.out.mono ?_; rintro e w2 ⟨oq, cq, rfl, hq⟩)
      obtain ⟨EL, hEL, hA⟩ := hAsk.out w2 oq hq.out
      have HA := Lib.hid hA
      have HEL := Lib.hid hEL
      rw [← hB] at HA ⊢
      clear hAsk hQ hq hA hEL hB
      go_loopw [33] (fun s33 wr => ∃ j : Nat, s33 = .int .i64 j ∧ Hid (j ≤ m) ∧ Hid (Laid w2 wr B j EL)) (fun s33 _ => m - (intOf s33).toNat)
      case atStart => exact ⟨0, by go_num, Lib.hid (Nat.zero_le _), Lib.hid (Laid.start HA.out)⟩
      case round =>
        obtain ⟨j, rfl, hj, hJ⟩ := hrel
        rcases Nat.lt_or_ge j m with hlt | hge
        · have hjE : j < EL.length := by rw [HEL.out]; exact hlt
          obtain ⟨e1, g, hg1, hg2⟩ := hJ.out.read HA.out hjE
          obtain ⟨D2, n2, l1, l2, l3, l4⟩ := hJ.out
          have hstep : Hid (∀ w3, w3.ownsMap Try.prog 9 (plainElem Try.prog 3) B (n2 + 1) (D2.put (.string EL[j].1) (.lit (.int .i64 (EL[j].2.2 : Int)))) → wr.drew.grownBy w3 (some B) → Laid w2 w3 B (j + 1) EL) := Lib.hid fun w3 ho hg => Laid.step HA.out l1 l2 l3 l4 hjE ho hg
          have hcnt : EL[j].2.2 ≤ 1000 := by
            rw [(HA.out.cnt.1 _ (List.getElem_mem hjE)).1]
            exact Nat.le_trans List.count_le_length (by have := HN.out; have := HNl.out; omega)
          have hkey := keyS (Hlen.out _ ((HA.out.cnt.1 _ (List.getElem_mem hjE)).2))
          have hown := Lib.hid (show wr.drew.ownsMap Try.prog 9 (plainElem Try.prog 3) B n2 D2 from l1)
          have hn2 : Hid (n2 < maxLen) := Lib.hid (by have := Hm8.out; unfold maxLen; omega)
          have x0 := cell_of e1 (i := 0) rfl
          have x1 := cell_of e1 (i := 1) rfl
          generalize EL[j].1 = s at *
          generalize EL[j].2.1 = b at *
          generalize EL[j].2.2 = q at *
          have hv : Hid (plainElem (H := Unit) Try.prog 3 (.int .i64 (q : Int)) = some (.lit (.int .i64 (q : Int)), [])) := Lib.hid (plainElem_int Try.underlying3 (WalkArith.wf_i64 (by omega)))
          subst hg1
          have hjm : (j : Int) < (m : Int) := by omega
          have hj1 : Hid (j + 1 ≤ m) := Lib.hid hlt
          clear e1 l1 l2 l3 l4 hjE hcnt
          go_wp2_with fail
          go_still_tail 9, (by kernel_rfl)
          change wpList _ _ _ _ _ wr.drew
          go_wp2_with (first | (at_mapUpdate; refine wpList_mapUpdate_own _ rfl _ _ _ 66 rfl 9 3 lawS Try.underlying66 _ B n2 _ rfl hown.out hn2.out _ _ _ rfl rfl hkey _ [] hv.out ?_; intro w3 ho hg; have hL3 := Lib.hid (hstep.out w3 ho hg); clear ho hg) | fail)
          go_roundw
          case rel => exact ⟨j + 1, by go_num, hj1, hL3⟩
          case measure => simp [intOf]; omega
        · obtain rfl : j = m := by have := hj.out; omega
          obtain ⟨W3, rfl⟩ : ∃ W3, W3 = wr := ⟨_, rfl⟩
          obtain ⟨D3, n3, l1, l2, l3, l4⟩ := hJ.out
          have hM3 : Hid (Mp D3 (cnts EL)) := Lib.hid (by rwa [← HEL.out, List.take_length] at l2)
          have hown3 := Lib.hid l1
          have hB3 : Hid (RowKit.Below w.heap.size w W3) := Lib.hid (HA.out.below.grown l3 HA.out.sz fun q hq => by cases hq; exact HA.out.hB)
          have hBl : Hid (B < W3.heap.size) := Lib.hid l1.lt
          have hstart : Hid (∀ w', w'.ranges Try.prog 9 (plainElem Try.prog 3) B W3.heap.size n3 D3 (Maps.has D3) (Maps.size D3) → W3.grownBy w' none → w'.heap.size = W3.heap.size + 1 → ColN W3 w' B n3 D3 (words EL) [] (words EL) (Maps.has D3) (Maps.size D3) (.slice none 0 0)) := Lib.hid fun w' a b c =>
            ⟨by simp, fun s => by rw [hM3.out.has, cnts_words], a, World.ownsRow_nil _ _ _ _, (RowKit.Below.refl _ _).grown b (Nat.le_refl _) (fun q hq => by cases hq), by omega⟩
          clear l1 l2 l3 l4 hJ hj hge
          obtain ⟨i0, hi0, hz0, hz1, hz2⟩ := info_parts info_S
          go_wp2_with (first
            | (at_range; refine wpList_range_own _ rfl _ 66 rfl 9 3 lawS Try.underlying66 _ B n3 D3 rfl hown3.out ?_; intro w4 hrg1 hg1 hs1; have H1 := Lib.hid (hstart.out w4 hrg1 hg1 hs1); clear hrg1 hg1 hs1 hstart))
          go_frame
          go_loopw [12] (fun s12 wq => ∃ CL R left cnt, (∃ oa c, s12 = .slice oa (List.length CL) c) ∧ Hid (ColN W3 wq B n3 D3 (words EL) CL R left cnt s12)) (fun _ wq => wq.rangeLeft B W3.heap.size)
          case atStart => exact ⟨[], words EL, _, _, ⟨_, _, rfl⟩, H1⟩
          case round =>
            obtain ⟨CL, R, left, cnt, ⟨oc, cc, rfl⟩, hC⟩ := hrel
            have hrg := Lib.hid hC.out.rg
            have HCL : Hid (CL.length ≤ 8) := Lib.hid (by
              have := hC.out.perm.length_eq; rw [List.length_append] at this
              have := HEL.out; have := Hm8.out; simp [words] at *; omega)
            have hcli : (CL.length : Int) ≤ 8 := by have := HCL.out; omega
            go_wp2_with (first
              | (at_next; refine wpList_next_ranges _ rfl _ rfl 9 lawS (plainElem Try.prog 3) strV (Value.int .i64) (fun key kl hk => by obtain ⟨s, e, _⟩ := keyS_inv hk; exact ⟨s, e⟩) (fun v y hv => by obtain ⟨c, e, _⟩ := plainElem_int_inv Try.underlying3 hv; exact ⟨c, e⟩) B W3.heap.size n3 _ _ _ rfl hrg.out ?_ ?_)
              | fail)
            · -- nothing is left
              intro _ hl0
              have hR : R = [] := by
                cases R with
                | nil => rfl
                | cons x R =>
                  have e1 := hC.out.lf x
                  rw [hl0] at e1
                  simp at e1
              subst hR
              have hns := names_sorted HA.out hC.out
              obtain ⟨hr1, hr2⟩ := own_hrow hC.out.own rfl
              have hsort := sortW_calls (c := cc) hr1 (by exact hC.out.sz) (by have := HCL.out; omega)
              rw [hns, ← HS.out] at hsort
              have hSl : S.length = CL.length := by rw [HS.out, ← hns]; exact (List.mergeSort_perm _ _).length_eq
              have hrgB := hC.out.rg.owns
              have hBel := hC.out.below
              have hszW := hC.out.sz
              have HSort := Lib.hid hsort
              have HszW := Lib.hid hszW
              have HSl8 : Hid (S.length ≤ 8) := Lib.hid (by have := HCL.out; omega)
              have hB7 : Hid (∀ w', RowKit.Below (W3.heap.size + 1) wr w' → w'.ownsMap Try.prog 9 (plainElem Try.prog 3) B n3 D3 ∧ RowKit.Below w.heap.size w w') := Lib.hid fun w' hb =>
                ⟨ownsMap_at hrgB (hb.block B (by have := hBl.out; omega)), (hB3.out.trans (hBel.mono hB3.out.size)).trans (hb.mono (by have := hB3.out.size; omega))⟩
              have hSi : (S.length : Int) ≤ 8 := by have := HSl8.out; omega
              have HSm : Hid (∀ s ∈ S, s ∈ ws) := Lib.hid fun s hs => by
                rw [HS.out, compact_mem, (List.mergeSort_perm _ _).mem_iff] at hs; exact hs
              have HW3 : Hid (w.heap.size ≤ W3.heap.size) := Lib.hid hB3.out.size
              rw [← hSl] at HSort ⊢
              obtain ⟨m', hm'⟩ : ∃ m', m' = S.length := ⟨_, rfl⟩
              rw [← hm'] at HSort hSi ⊢
              have HM := Lib.hid hm'
              clear hns hr1 hr2 hsort hSl hrgB hBel hszW hC hrg HCL hcli hm' hl0 H1
              obtain ⟨i1, hi1, hy0, hy1, hy2⟩ := info_parts info_I
              go_wp2_with (go_at_call 33; refine HSort.out.mono ?_; rintro e w7 ⟨rfl, hq7⟩)
              obtain ⟨hR7, hb7⟩ := hq7.out
              have HR7 := Lib.hid hR7
              have HB7 := Lib.hid (hB7.out w7 hb7)
              have HW7 : Hid (W3.heap.size + 1 ≤ w7.heap.size) := Lib.hid (Nat.le_trans HszW.out hb7.size)
              clear hq7 hR7 hb7 hB7 HSort
              go_loopw [61, 14] (fun s61 s14 wz => ∃ j : Nat, s61 = .int .i64 j ∧ (∃ a c, s14 = .slice a j c) ∧ Hid (j ≤ m') ∧ Hid (RowKit.Below w7.heap.size w7 wz) ∧ Hid (wz.ownsRow w7.heap.size 3 1 s14 j (cntL S ws j))) (fun s61 _ _ => m' - (intOf s61).toNat)
              case atStart => exact ⟨0, by go_num, ⟨_, _, rfl⟩, Lib.hid (Nat.zero_le _), Lib.hid (RowKit.Below.refl _ _), Lib.hid (World.ownsRow_nil _ _ _ _)⟩
              case round =>
                obtain ⟨j, rfl, ⟨a14, c14, rfl⟩, hj, hbz, hoz⟩ := hrel
                rcases Nat.lt_or_ge j m' with hlt | hge
                · have hjS : j < S.length := by rw [← HM.out]; exact hlt
                  obtain ⟨g7, hg1, hg2, _⟩ := (HR7.out.below hbz.out).cell j hjS
                  have hsm := HSm.out _ (List.getElem_mem hjS)
                  have hkey := keyS (Hlen.out _ hsm)
                  have hlook : Hid (∀ c, D3.atKey (.string S[j]) (.lit (.int .i64 0)) = .lit (.int .i64 c) → c = (ws.count S[j] : Int)) := Lib.hid fun c hat => by
                    rw [look_cnt HA.out hM3.out hsm] at hat
                    injection hat with hat; injection hat with _ hat; exact hat.symm
                  have hownz := Lib.hid (ownsMap_at HB7.out.1 (hbz.out.block B HB7.out.1.lt))
                  have hsucc := cntL_succ S ws j
                  have hqle : ws.count S[j] ≤ 1000 := Nat.le_trans List.count_le_length (by have := HN.out; have := HNl.out; omega)
                  rw [getElem!_pos S j hjS] at hsucc
                  obtain ⟨q, hq⟩ : ∃ q, q = ws.count S[j] := ⟨_, rfl⟩
                  rw [← hq] at hlook hsucc hqle
                  have Hsucc := Lib.hid hsucc
                  generalize S[j] = s at *
                  have Hoz := Lib.hid (hoz.out.alloc (.cells #[.int .i64 (q : Int)] 3))
                  have hjm : (j : Int) < (m' : Int) := by omega
                  have hj8 : Hid (j ≤ 8) := Lib.hid (by have := HSl8.out; omega)
                  have hj1 : Hid (j + 1 ≤ m') := Lib.hid hlt
                  have hbase : Hid (w7.heap.size ≤ wr.heap.size) := Lib.hid hbz.out.size
                  subst hg1
                  clear hjS hsm hq hsucc hqle
                  go_wp2_with (first
                    | (at_lookup; refine wpList_lookup_own_int _ rfl _ _ 66 rfl 9 3 .i64 lawS Try.underlying66 Try.underlying3 (zeroI _) B n3 _ rfl hownz.out _ _ rfl hkey ?_; intro cc2 hat hwc; obtain rfl := hlook.out cc2 hat; clear hat hwc)
                    | (at_builtin; refine wpList_append_own _ rfl (.tmp 65) (.tmp 69) 34 rfl w7.heap.size 3 i1 (.int .i64 0) 1 8 Try.underlying34 hi1 hy0 hy1 hy2 rfl (by decide) _ _ _ rfl Hoz.out ⟨wr.heap.size, 0, none⟩ 1 1 [.int .i64 (q : Int)] rfl rfl ?c1 ?c2 ?c3 ?c4 ?c5 ?_))
                  case c1 =>
                    intro j u hj
                    match j, hj with
                    | 0, hj => simp at hj; subst hj; simp [Addr.add]
                  case c2 => intro u hu; simp at hu; subst hu; rfl
                  case c3 => have := hj8.out; unfold maxLen; omega
                  case c4 => have := hj8.out; omega
                  case c5 => have := hbase.out; simp; omega
                  intro v' w9 hown' hgrow hv'
                  have hb9 : RowKit.Below w7.heap.size w7 w9 := (hbz.out.alloc hbase.out _).grown hgrow (by have := hbase.out; simp; omega) fun q hq => (Hoz.out.lt q hq).1
                  rw [← Hsucc.out] at hown'
                  obtain ⟨a15, c15, rfl⟩ : ∃ a c, v' = .slice a (j + 1) c := by
                    rcases hown'.2 with ⟨h1, h2⟩ | ⟨g, cap, cur, h1, _⟩
                    · omega
                    · exact ⟨_, _, h1⟩
                  have HO9 := Lib.hid hown'
                  have HB9 := Lib.hid hb9
                  clear hown' hgrow hv' hb9
                  go_wp2_with fail
                  go_roundw
                  case rel => exact ⟨j + 1, by go_num, ⟨_, _, rfl⟩, hj1, HB9, HO9⟩
                  case measure => simp [intOf]; omega
                · obtain rfl : j = m' := by have := hj.out; omega
                  have hfin : Hid (HRow wr w.heap.size oc S ∧ IRow wr a14 (fun i => ws.count S[i]!) j ∧ RowKit.Below w.heap.size w wr) := Lib.hid ⟨(HR7.out.below hbz.out).low (by have := HW3.out; omega), own_irow hoz.out, HB7.out.2.trans (hbz.out.mono HB7.out.2.size)⟩
                  clear hoz hbz hj
                  go_wp2_with fail
                  go_ret2
                  refine ⟨oc, cc, a14, c14, by rw [← HM.out]; rfl, Lib.hid ?_⟩
                  rw [← HM.out]; exact hfin.out
            · -- an entry has come
              intro s c' kl a ps w5 cnt1 hkey hlk hv hat hrg1 hlt hg1 hs1 hen
              obtain rfl := keyS_eq hkey
              have hx : s ∈ R := by have := hC.out.lf s; rw [hlk] at this; simpa using this.symm
              have Hx := Lib.hid hx
              have Hg1 := Lib.hid hg1
              have Hrg1 := Lib.hid hrg1
              have Hlt := Lib.hid hlt
              have hsz1 : Hid (W3.heap.size + 1 ≤ w5.heap.size) := Lib.hid (Nat.le_trans hC.out.sz hg1.size)
              have hown1 : Hid (w5.ownsRow (W3.heap.size + 1) 9 1 (.slice oc CL.length cc) CL.length (CL.map strV)) := Lib.hid (hC.out.own.kept hg1 (.inr fun e => by have := (hC.out.own.lt _ e).1; omega))
              clear hrg hkey hlk hv hat hg1 hrg1 hlt hs1 hx H1
              go_wp2_with (first
                | (at_builtin; refine wpList_append_own _ rfl (.tmp 53) (.tmp 55) 40 rfl (W3.heap.size + 1) 9 i0 (.string ⟨#[]⟩) 1 16 Try.underlying40 hi0 hz0 hz1 hz2 rfl (by decide) _ _ _ rfl (hown1.out.alloc _) ⟨w5.heap.size, 0, none⟩ 1 1 [strV s] rfl rfl ?c1 ?c2 ?c3 ?c4 ?c5 ?_))
              case c1 =>
                intro j u hj
                match j, hj with
                | 0, hj => simp at hj; subst hj; simp [Addr.add]
              case c2 => intro u hu; simp at hu; subst hu; rfl
              case c3 => have := HCL.out; unfold maxLen; omega
              case c4 => have := HCL.out; omega
              case c5 => have := hsz1.out; simp; omega
              intro v' w6 hown' hgrow hv'
              have hstep := hC.out.step HA.out.nod hBl.out Hx.out Hg1.out Hrg1.out (O := .cells #[strV s] 9) (v' := v') hown' hgrow
              obtain ⟨oa', c'', rfl⟩ := hstep.slice
              have HNx := Lib.hid hstep
              clear hown' hgrow hv' hstep
              go_wp2_with fail
              go_roundw
              case rel => exact ⟨CL ++ [s], R.erase s, _, _, ⟨_, _, rfl⟩, HNx⟩
              case measure => rw [HNx.out.rg.left_eq, hC.out.rg.left_eq]; exact Hlt.out
end Go.Proofs.Ythcgojhfbcgaiaa
