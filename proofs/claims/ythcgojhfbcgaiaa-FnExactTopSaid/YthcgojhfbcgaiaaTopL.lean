/- spec.Often, SameTexts, SameInts. Conditions: the rows lie in memory. -/
import Derived.Test.YthcgojhfbcgaiaaTopK
namespace Go.Proofs.Ythcgojhfbcgaiaa
open Go.RowKit Go.Maps Go.Sort Go.Proofs

theorem count_take {ws : List Word} {i : Nat} (hi : i < ws.length) (s : Word) : (ws.take (i + 1)).count s = (ws.take i).count s + if ws[i] = s then 1 else 0 := by
  rw [List.take_succ_eq_append_getElem hi, List.count_append, List.count_singleton]
  simp
set_option maxHeartbeats 4000000 in
set_option maxRecDepth 100000 in
theorem Often_calls {w : World} {base0 c : Nat} {oa : Option Addr} {ws : List Word} (h : HRow w base0 oa ws) (hN : ws.length ≤ 1000) :
    Calls Try.prog 18 #[.slice oa ws.length c] w fun e w' => ∃ oa1 c1 oa2 c2, e = .returned (.tuple #[.slice oa1 (Lib.compact (ws.mergeSort leW)).length c1, .slice oa2 (Lib.compact (ws.mergeSort leW)).length c2]) ∧
      Hid (HRow w' w.heap.size oa1 (Lib.compact (ws.mergeSort leW)) ∧ IRow w' oa2 (fun i => ws.count (Lib.compact (ws.mergeSort leW))[i]!) (Lib.compact (ws.mergeSort leW)).length ∧ RowKit.Below w.heap.size w w') := by
  have hcl := Lib.hid (cloneW_calls (c := c) h hN)
  have H := Lib.hid h
  have hsl : (ws.mergeSort leW).length = ws.length := (List.mergeSort_perm _ _).length_eq
  have hSle : (Lib.compact (ws.mergeSort leW)).length ≤ ws.length := by rw [← hsl]; exact Lib.compact_length_le _
  have Hrest : Hid (∀ w1 oa1 c1, HRow w1 w.heap.size oa1 ws → ws.length ≤ c1 → RowKit.Below w.heap.size w w1 → Calls Try.prog 33 #[.slice oa1 ws.length c1] w1 fun e w2 => e = .returned (.tuple #[]) ∧
      Hid (RowKit.Below w.heap.size w w2 ∧ Calls Try.prog 35 #[.slice oa1 ws.length c1] w2 fun e w3 => e = .returned (.slice oa1 (Lib.compact (ws.mergeSort leW)).length c1) ∧ Hid (HRow w3 w.heap.size oa1 (Lib.compact (ws.mergeSort leW)) ∧ RowKit.Below w.heap.size w w3))) :=
    Lib.hid fun w1 oa1 c1 hr hc1 hb => (sortW_calls (c := c1) hr hb.size hN).mono fun e w2 ⟨a, b⟩ => ⟨a, Lib.hid ⟨hb.trans b.out.2, by
      have := compactW_calls (c := c1) b.out.1 (by omega) (by omega)
      rw [hsl] at this
      exact this.mono fun e w3 ⟨a', b'⟩ => ⟨a', Lib.hid ⟨b'.out.1, (hb.trans b.out.2).trans b'.out.2⟩⟩⟩⟩
  obtain ⟨S, hS⟩ : ∃ S, S = Lib.compact (ws.mergeSort leW) := ⟨_, rfl⟩
  obtain ⟨N, hNn⟩ : ∃ N, N = ws.length := ⟨_, rfl⟩
  obtain ⟨m, hm⟩ : ∃ m, m = S.length := ⟨_, rfl⟩
  rw [← hS] at Hrest hSle ⊢
  rw [← hm] at Hrest hSle ⊢
  rw [← hNn] at Hrest hcl hSle hN ⊢
  have HN := Lib.hid hNn
  have HM := Lib.hid hm
  have hNi : (N : Int) ≤ 1000 := by omega
  have hmi : (m : Int) ≤ 1000 := by omega
  have HNl : Hid (N ≤ 1000) := Lib.hid (by omega)
  have Hml : Hid (m ≤ 1000) := Lib.hid (by omega)
  obtain ⟨i1, hi1, hy0, hy1, hy2⟩ := info_parts info_I
  clear h hN hsl hSle hS hNn hm
  go_enter Try.func18, Try.ntmps18
  go_wp2_with (first
    | (go_at_call 34; refine hcl.out.mono ?_; rintro e w1 ⟨oa1, c1, rfl, hq1⟩; have hst := Hrest.out w1 oa1 c1 hq1.out.1 (by have := hq1.out.2.1; have := HN.out; omega) hq1.out.2.2; have Hst := Lib.hid hst; clear hst)
    | (go_at_call 33; refine Hst.out.mono ?_; rintro e w2 ⟨rfl, hq2⟩)
    | (go_at_call 35; refine hq2.out.2.mono ?_; rintro e w3 ⟨rfl, hq3⟩))
  have HR3 := Lib.hid hq3.out.1
  have HB3 := Lib.hid hq3.out.2
  clear hcl Hrest hq1 Hst hq2 hq3
  go_loopw [19, 5] (fun s19 s5 wr => ∃ j : Nat, s19 = .int .i64 j ∧ (∃ a c, s5 = .slice a j c) ∧ Hid (j ≤ m) ∧ Hid (RowKit.Below w3.heap.size w3 wr) ∧ Hid (wr.ownsRow w3.heap.size 3 1 s5 j (cntL S ws j))) (fun s19 _ _ => m - (intOf s19).toNat)
  case atStart => exact ⟨0, by go_num, ⟨_, _, rfl⟩, Lib.hid (Nat.zero_le _), Lib.hid (RowKit.Below.refl _ _), Lib.hid (World.ownsRow_nil _ _ _ _)⟩
  case round =>
    obtain ⟨j, rfl, ⟨a5, c5, rfl⟩, hj, hbz, hoz⟩ := hrel
    rcases Nat.lt_or_ge j m with hlt | hge
    · have hjS : j < S.length := by rw [← HM.out]; exact hlt
      obtain ⟨g7, hg1, hg2, _⟩ := (HR3.out.below hbz.out).cell j hjS
      have hsucc := cntL_succ S ws j
      rw [getElem!_pos S j hjS] at hsucc
      have Hsucc := Lib.hid hsucc
      have Hcell : Hid (∀ i (hi : i < ws.length), ∃ g, oa = some ⟨g, 0, none⟩ ∧ wr.cell? ⟨g, i, none⟩ = some (strV ws[i])) := Lib.hid fun i hi => by
        obtain ⟨g, a1, a2, a3⟩ := H.out.cell i hi
        exact ⟨g, a1, by rw [hbz.out.cell (p := ⟨g, i, none⟩) (Nat.lt_of_lt_of_le a3 HB3.out.size), HB3.out.cell (p := ⟨g, i, none⟩) a3]; exact a2⟩
      generalize S[j] = s at *
      have hjm : (j : Int) < (m : Int) := by omega
      have hj8 : Hid (j ≤ 1000) := Lib.hid (by have := Hml.out; omega)
      have hj1 : Hid (j + 1 ≤ m) := Lib.hid hlt
      have hbase : Hid (w3.heap.size ≤ wr.heap.size) := Lib.hid hbz.out.size
      subst hg1
      clear hjS hsucc
      go_wp2_with fail
      go_loop [25, 8] (fun s25 s8 => ∃ i : Nat, i ≤ N ∧ s25 = .int .i64 i ∧ s8 = .int .i64 ((ws.take i).count s : Int)) (fun s25 _ => N - (intOf s25).toNat)
      case atStart => exact ⟨0, Nat.zero_le _, by go_num, by simp⟩
      case round =>
        obtain ⟨i, hi, rfl, rfl⟩ := hrel
        rcases Nat.lt_or_ge i N with hlt2 | hge2
        · have hiw : i < ws.length := by rw [← HN.out]; exact hlt2
          obtain ⟨g, hga, hgc⟩ := Hcell.out i hiw
          have hct := count_take hiw s
          have hcle : (ws.take i).count s ≤ 1000 := Nat.le_trans List.count_le_length (by have := HNl.out; simp; omega)
          obtain ⟨q, hq⟩ : ∃ q, q = (ws.take i).count s := ⟨_, rfl⟩
          rw [← hq] at hct hcle ⊢
          subst hga
          have hii : (i : Int) < (N : Int) := by omega
          have hq2 : (q : Int) ≤ 1000 := by omega
          have Hct := Lib.hid hct
          clear hct hq hcle
          generalize ws[i] = x at *
          by_cases hx : x = s
          · subst hx
            clear hiw
            go_wp2_with fail
            exact ⟨⟨i + 1, by omega, by go_num, by rw [Hct.out]; simp⟩, by simp [intOf]; omega⟩
          · have hb : (⟨x.toArray⟩ : ByteArray) ≠ ⟨s.toArray⟩ := fun e => hx (by injection e with e; simpa using e)
            clear hiw
            go_wp2_with fail
            · exact absurd (eq_of_beq (show (x == s) = true by assumption)) hx
            · exact ⟨⟨i + 1, by omega, by go_num, by rw [Hct.out]; simp [hx]⟩, by simp [intOf]; omega⟩
        · obtain rfl : i = N := by omega
          obtain ⟨q, hq⟩ : ∃ q, q = ws.count s := ⟨_, rfl⟩
          have hti : (ws.take i).count s = q := by rw [HN.out, List.take_length, hq]
          rw [hti]
          have hsq := Hsucc.out
          rw [← hq] at hsq
          have Hsq := Lib.hid hsq
          have Hoz := Lib.hid (hoz.out.alloc (.cells #[.int .i64 (q : Int)] 3))
          clear hq hti hsq Hsucc hge2
          go_wp2_with (first
            | (at_builtin; refine wpList_append_own _ rfl (.tmp 35) (.tmp 37) 34 rfl w3.heap.size 3 i1 (.int .i64 0) 1 8 Try.underlying34 hi1 hy0 hy1 hy2 rfl (by decide) _ _ _ rfl Hoz.out ⟨wr.heap.size, 0, none⟩ 1 1 [.int .i64 (q : Int)] rfl rfl ?c1 ?c2 ?c3 ?c4 ?c5 ?_))
          try case c1 =>
            intro j u hj
            match j, hj with
            | 0, hj => simp at hj; subst hj; simp [Addr.add]
          case c2 => first | rfl | (intro u hu; simp at hu; subst hu; rfl)
          case c3 => have := hj8.out; unfold maxLen; omega
          case c4 => have := hj8.out; omega
          case c5 => have := hbase.out; simp; omega
          intro v' w9 hown' hgrow hv'
          have hb9 : RowKit.Below w3.heap.size w3 w9 := (hbz.out.alloc hbase.out _).grown hgrow (by have := hbase.out; simp; omega) fun q hq => (Hoz.out.lt q hq).1
          rw [← Hsq.out] at hown'
          obtain ⟨a15, c15, rfl⟩ : ∃ a c, v' = .slice a (j + 1) c := by
            rcases hown'.2 with ⟨h1, h2⟩ | ⟨g, cap, cur, h1, _⟩
            · omega
            · exact ⟨_, _, h1⟩
          have HO9 := Lib.hid hown'
          have HB9 := Lib.hid hb9
          clear hown' hgrow hv' hb9
          go_wp2_with fail
          first
            | (refine ⟨⟨j + 1, by go_num, ⟨_, _, rfl⟩, hj1, HB9, HO9⟩, ?_⟩; simp [intOf]; omega)
            | (go_roundw
               case rel => exact ⟨j + 1, by go_num, ⟨_, _, rfl⟩, hj1, HB9, HO9⟩
               case measure => simp [intOf]; omega)
    · obtain rfl : j = m := by have := hj.out; omega
      have hfin : Hid (HRow wr w.heap.size oa1 S ∧ IRow wr a5 (fun i => ws.count S[i]!) j ∧ RowKit.Below w.heap.size w wr) := Lib.hid ⟨HR3.out.below hbz.out, own_irow hoz.out, HB3.out.trans (hbz.out.mono HB3.out.size)⟩
      clear hoz hbz hj
      go_wp2_with fail
      go_ret2
      exact ⟨oa1, c1, a5, c5, rfl, hfin⟩

set_option maxRecDepth 100000 in
theorem sameIntsT_calls (n c1 c2 : Nat) (a1 a2 : Option Addr) (f : Nat → Nat) (w : World) (hn : n ≤ 1000)
    (h1 : 0 < n → ∃ g, a1 = some ⟨g, 0, none⟩ ∧ ∀ i, i < n → w.cell? ⟨g, i, none⟩ = some (.int .i64 (f i : Int))) (h2 : 0 < n → ∃ g, a2 = some ⟨g, 0, none⟩ ∧ ∀ i, i < n → w.cell? ⟨g, i, none⟩ = some (.int .i64 (f i : Int))) :
    Calls Try.prog 20 #[.slice a1 n c1, .slice a2 n c2] w fun e w' => e = .returned (.bool true) ∧ ∃ d, w' = w.drewN d := by
  have he : Hid (Calls Try.prog 37 #[.slice a1 n c1, .slice a2 n c2] w fun e w' => e = .returned (.bool true) ∧ ∃ d, w' = w.drewN d) := Lib.hid (by
    rcases Nat.eq_zero_or_pos n with h0 | h0
    · subst h0
      refine (Try.slices_Equal_int_empty a1 a2 c1 0 c2 w (by omega)).mono ?_
      rintro e w' ⟨rfl, rfl⟩
      exact ⟨rfl, 0, rfl⟩
    · obtain ⟨g1, rfl, e1⟩ := h1 h0
      obtain ⟨g2, rfl, e2⟩ := h2 h0
      have hg : ∀ j, j < n → ((List.range n).map fun i => (f i : Int)).getD j 0 = (f j : Int) := fun j hj => by simp [hj]
      refine (Try.slices_Equal_int g1 0 n c1 g2 0 n c2 ((List.range n).map fun i => (f i : Int)) ((List.range n).map fun i => (f i : Int)) w (by simp) (by simp) (by omega) (by omega) (fun j hj => ?_) (fun j hj => ?_)).mono ?_
      · rw [Nat.zero_add, hg j (by simpa using hj)]; exact e1 j (by simpa using hj)
      · rw [Nat.zero_add, hg j (by simpa using hj)]; exact e2 j (by simpa using hj)
      · rintro e w' ⟨rfl, q, rfl⟩
        exact ⟨by simp, q, rfl⟩)
  clear h1 h2 hn
  go_enter Try.func20, Try.ntmps20
  go_wp2_with (go_at_call 37; refine he.out.mono ?_; rintro e w1 ⟨rfl, d, rfl⟩)
  go_ret
  exact ⟨rfl, d, rfl⟩

set_option maxRecDepth 100000 in
theorem sameTexts_calls {w : World} {base base' c c' : Nat} {oa oa' : Option Addr} {L : List Word} (h : HRow w base oa L) (h' : HRow w base' oa' L) (hl : L.length ≤ 1000) :
    Calls Try.prog 19 #[.slice oa L.length c, .slice oa' L.length c'] w fun e w' => e = .returned (.bool true) ∧ ∃ d, w' = w.drewN d := by
  have he := Lib.hid (equalW_calls (c := c) (c' := c') h h' hl)
  clear h h' hl
  go_enter Try.func19, Try.ntmps19
  go_wp2_with (go_at_call 36; refine he.out.mono ?_; rintro e w1 ⟨rfl, d, rfl⟩)
  go_ret
  exact ⟨rfl, d, rfl⟩
end Go.Proofs.Ythcgojhfbcgaiaa
