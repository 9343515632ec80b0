/- perkstopk's Query. Conditions: the stream lies in memory, of at most twelve entries. -/
import Derived.Test.YthcgojhfbcgaiaaTopF
import Derived.Deep.AppendLies
namespace Go.Proofs.Ythcgojhfbcgaiaa
open Go.RowKit Go.Maps Go.Proofs

theorem info_PE : (Try.prog.info? 70).map (fun i => (i.zero, i.size, i.bytes)) = some (some (.pointer none), 1, 8) := by kernel_rfl
/-- What the collecting loop keeps. -/
structure Col (w wr : World) (M n : Nat) (D : Du) (AL CL R : List Ent) (left : Lit → Bool) (cnt : Nat) (v : Value) : Prop where
  perm : (CL ++ R).Perm AL
  lf : ∀ s, left (.string s) = decide (s ∈ words R)
  rg : wr.ranges Try.prog 9 ptrElem M w.heap.size n D left cnt
  own : wr.ownsRow (w.heap.size + 1) 70 1 v CL.length (CL.map fun x => ptrV x.2.1)
  below : RowKit.Below w.heap.size w wr
  sz : w.heap.size + 1 ≤ wr.heap.size
theorem Col.slice {w wr : World} {M n : Nat} {D : Du} {AL CL R : List Ent} {left : Lit → Bool} {cnt : Nat} {v : Value} (h : Col w wr M n D AL CL R left cnt v) : ∃ oa c, v = .slice oa CL.length c := by
  rcases h.own.2 with ⟨h1, h2⟩ | ⟨g, cap, cur, h1, _⟩
  · exact ⟨none, 0, by rw [h1, h2]⟩
  · exact ⟨_, _, h1⟩
/-- An entry has come, its element is appended. -/
theorem Col.step {w wr w1 w2 : World} {M n t base Z k : Nat} {D : Du} {AL CL R : List Ent} {left : Lit → Bool} {cnt cnt' : Nat} {v v' : Value} (h : Col w wr M n D AL CL R left cnt v) (hS : Str w base t M Z k n D AL) {x : Ent} (hx : x ∈ R)
    (hg : wr.grownBy w1 (some w.heap.size)) (hrg : w1.ranges Try.prog 9 ptrElem M w.heap.size n D (fun z => left z && !z.sameKey (.string x.1)) cnt') {O : Obj}
    (ho : w2.ownsRow (w.heap.size + 1) 70 1 v' (CL.length + 1) ((CL.map fun x => ptrV x.2.1) ++ [ptrV x.2.1])) (hg2 : (w1.alloc O).grownBy w2 v.ownBlock) :
    Col w w2 M n D AL (CL ++ [x]) (R.erase x) (fun z => left z && !z.sameKey (.string x.1)) cnt' v' := by
  have hM : M < w.heap.size := hS.own.lt
  have hn : (words R).Nodup := by
    have h1 : (words AL).Nodup := by rw [← keysOf_words]; exact hS.mp.nod
    have h2 := (h.perm.map (fun x : Ent => x.1)).nodup_iff.2 h1
    rw [List.map_append] at h2
    exact (List.nodup_append.1 h2).2.1
  have hvb : ∀ q, v.ownBlock = some q → w.heap.size + 1 ≤ q := fun q hq => (h.own.lt q hq).1
  have hsz1 : w.heap.size + 1 ≤ w1.heap.size := Nat.le_trans h.sz hg.size
  have hb1 : RowKit.Below w.heap.size w w1 := h.below.grown hg (by have := h.sz; omega) fun q hq => by cases hq; exact Nat.le_refl _
  refine ⟨?_, fun s => ?_, (hrg.alloc O).kept hg2 (fun e => ?_) (fun e => ?_), ?_, (hb1.alloc (by omega) O).grown hg2 (by simp; omega) (fun q hq => by have := hvb q hq; omega), ?_⟩
  · have := List.perm_cons_erase hx
    refine List.Perm.trans ?_ h.perm
    rw [List.append_assoc]
    exact List.Perm.append_left CL (by simpa using this.symm)
  · show (left (.string s) && !(Lit.string s).sameKey (.string x.1)) = _
    rw [strike hn hx, h.lf]
  · have := hvb M e.symm; omega
  · have := hvb _ e.symm; omega
  · simpa using ho
  · have := hg2.size; simp at this; omega

set_option maxHeartbeats 2000000 in
set_option maxRecDepth 100000 in
theorem Query_calls {w : World} {base t M Z k n : Nat} {D : Du} {AL : List Ent} (h : Str w base t M Z k n D AL) (hl : AL.length ≤ k) (hk : k ≤ 8) :
    Calls Try.prog 32 #[.pointer (some ⟨t, 0, none⟩)] w fun e w' => ∃ oa c, e = .returned (.slice oa AL.length c) ∧ Hid (QOut w w' AL oa) := by
  obtain ⟨i0, hi, hz0, hz1, hz2⟩ := info_parts info_PE
  have t1 := cell_of h.ht (i := 1) rfl
  have hown := Lib.hid h.own
  have HS := Lib.hid h
  have hk' : (k : Int) ≤ 8 := by omega
  have Hl := Lib.hid hl
  have Hk := Lib.hid hk
  have hstart : Hid (∀ w', w'.ranges Try.prog 9 ptrElem M w.heap.size n D (Maps.has D) (Maps.size D) → w.grownBy w' none → w'.heap.size = w.heap.size + 1 → Col w w' M n D AL [] AL (Maps.has D) (Maps.size D) (.slice none 0 0)) := Lib.hid fun w' a b c =>
    ⟨by simp, fun s => by rw [h.mp.has, keysOf_words], a, World.ownsRow_nil _ _ _ _, (RowKit.Below.refl _ _).grown b (Nat.le_refl _) (fun q hq => by cases hq), by omega⟩
  clear h hl hk
  go_enter Try.func32, Try.ntmps32
  go_wp2_with (first
    | (at_range; refine wpList_range_own _ rfl _ 100 rfl 9 70 lawS Try.underlying100 ptrElem M n D rfl hown.out ?_; intro w1 hrg1 hg1 hs1; have H1 := Lib.hid (hstart.out w1 hrg1 hg1 hs1); clear hrg1 hg1 hs1 hstart))
  go_frame
  go_loopw [3] (fun s3 wr => ∃ CL R left cnt, (∃ oa c, s3 = .slice oa (List.length CL) c) ∧ Hid (Col w wr M n D AL CL R left cnt s3)) (fun _ wr => wr.rangeLeft M w.heap.size)
  case atStart => exact ⟨[], AL, _, _, ⟨_, _, rfl⟩, H1⟩
  case round =>
    obtain ⟨CL, R, left, cnt, ⟨oa, c, rfl⟩, hC⟩ := hrel
    have hrg := Lib.hid hC.out.rg
    go_wp2_with (first
      | (at_next; refine wpList_next_ranges _ rfl _ rfl 9 lawS ptrElem strV mkP (fun key kl hk => by obtain ⟨s, e, _⟩ := keyS_inv hk; exact ⟨s, e⟩) (fun v y hv => by obtain ⟨c, e, _⟩ := ptrElem_inv hv; exact ⟨c, e⟩) M w.heap.size n _ _ _ rfl hrg.out ?_ ?_)
      | fail)
    · -- nothing is left
      intro _ hl0
      have hR : R = [] := by
        cases R with
        | nil => rfl
        | cons x R =>
          have e1 := hC.out.lf x.1
          rw [hl0] at e1
          simp [words] at e1
      subst hR
      have hp : CL.Perm AL := by have := hC.out.perm; rwa [List.append_nil] at this
      have Hs := Lib.hid (sort_part HS.out (by have := Hl.out; have := Hk.out; omega) hp hC.out.below hC.out.own)
      have hlen := hp.length_eq
      have HT : Hid (∀ w', QOut w w' AL oa → w'.cell? ⟨t, 0, none⟩ = some (.int .i64 k)) := Lib.hid fun w' hq => by
        rw [hq.1.cell (p := ⟨t, 0, none⟩) (lt_of_at HS.out.ht)]; exact cell_of HS.out.ht rfl
      have hmc : CL.length ≤ c := by
        rcases hC.out.own.2 with ⟨h1, h2⟩ | ⟨g, cap, cur, h1, _, _, h4, _⟩
        · injection h1 with _ h1 _; omega
        · injection h1 with _ _ h1; omega
      rw [hlen] at Hs hmc ⊢
      obtain ⟨m, hm⟩ : ∃ m, m = AL.length := ⟨_, rfl⟩
      have hle : m ≤ k := by have := Hl.out; omega
      rw [← hm] at Hs hmc ⊢
      have Hm := Lib.hid hm
      clear hC hrg hl0 hp hlen H1 hm
      by_cases hmk : m = k
      · subst hmk
        have hmc' : (m : Int) ≤ (c : Int) := by omega
        clear hle
        go_wp2_with (first
          | (go_at_call 55; refine (Reverse_calls _ _).mono ?_; rintro e w1 ⟨rfl, rfl⟩)
          | (go_at_call 54; refine Hs.out.mono ?_; rintro e w2 ⟨rfl, hq⟩; have hk0 := HT.out w2 hq.out))
        go_ret
        exact ⟨oa, c, by rw [← Hm.out]; rfl, hq⟩
      · have hmk' : (m : Int) < (k : Int) := by omega
        clear hle hmk hmc
        go_wp2_with (first
          | (go_at_call 55; refine (Reverse_calls _ _).mono ?_; rintro e w1 ⟨rfl, rfl⟩)
          | (go_at_call 54; refine Hs.out.mono ?_; rintro e w2 ⟨rfl, hq⟩; have hk0 := HT.out w2 hq.out))
        go_ret
        exact ⟨oa, c, by rw [← Hm.out]; rfl, hq⟩
    · -- an entry has come
      intro s c' kl a ps w1 cnt1 hkey hlk hv hat hrg1 hlt hg1 hs1 hen
      obtain rfl := keyS_eq hkey
      have hm : s ∈ words R := by have := hC.out.lf s; rw [hlk] at this; simpa using this.symm
      obtain ⟨x, hx, rfl⟩ := List.mem_map.1 hm
      have hxA : x ∈ AL := hC.out.perm.mem_iff.1 (List.mem_append_right _ hx)
      have e1 := HS.out.mp.val (x.1, (x.2.1 : Int)) (List.mem_map.2 ⟨x, hxA, rfl⟩) dz
      rw [hat] at e1
      subst e1
      have e2 := ptrElem_at hv
      obtain rfl : c' = some x.2.1 := by
        cases c' with
        | none => simp [mkP] at e2
        | some q => simp [mkP] at e2; rw [e2]
      have Hx := Lib.hid hx
      have Hg1 := Lib.hid hg1
      have Hrg1 := Lib.hid hrg1
      have Hlt := Lib.hid hlt
      have hsz1 : Hid (w.heap.size + 1 ≤ w1.heap.size) := Lib.hid (Nat.le_trans hC.out.sz hg1.size)
      have hown1 : Hid (w1.ownsRow (w.heap.size + 1) 70 1 (.slice oa CL.length c) CL.length (CL.map fun x => ptrV x.2.1)) := Lib.hid (hC.out.own.kept hg1 (.inr fun e => by have := (hC.out.own.lt _ e).1; omega))
      have HCL : Hid (CL.length ≤ 8) := Lib.hid (by
        have := hC.out.perm.length_eq; rw [List.length_append] at this
        have := Hl.out; have := Hk.out; omega)
      have HCL2 := HCL.out
      have hcli : (CL.length : Int) ≤ 8 := by omega
      obtain ⟨b, hb⟩ : ∃ b, b = x.2.1 := ⟨_, rfl⟩
      have hen' : (Instr.entry (.pointer (some ⟨w.heap.size, 0, none⟩))).run Try.prog w1 = .ok (.tuple #[strV x.1, .pointer (some ⟨b, 0, none⟩)]) w1 := by rw [hb]; exact hen
      have Hb := Lib.hid hb
      have hmk : mkP (some x.2.1) = .pointer (some ⟨b, 0, none⟩) := by rw [hb]; rfl
      rw [hmk]
      clear hen hb hmk hrg hkey hlk hv hat hg1 hrg1 hlt hs1 hxA hm e2 H1 HCL2
      go_wp2_with (first
        | (at_builtin; refine wpList_append_own _ rfl (.tmp 15) (.tmp 17) 68 rfl (w.heap.size + 1) 70 i0 (.pointer none) 1 8 Try.underlying68 hi hz0 hz1 hz2 rfl (by decide) _ _ _ rfl (hown1.out.alloc _) ⟨w1.heap.size, 0, none⟩ 1 1 [.pointer (some ⟨b, 0, none⟩)] rfl rfl ?c1 ?c2 ?c3 ?c4 ?c5 ?_))
      case c1 =>
        intro j u hj
        match j, hj with
        | 0, hj => simp at hj; subst hj; simp [Addr.add]
      case c2 => intro u hu; simp at hu; subst hu; rfl
      case c3 => have := HCL.out; unfold maxLen; omega
      case c4 => have := HCL.out; omega
      case c5 => have := hsz1.out; simp; omega
      intro v' w2 hown' hgrow hv'
      have hstep := hC.out.step HS.out Hx.out Hg1.out Hrg1.out (O := .cells #[.pointer (some ⟨b, 0, none⟩)] 70) (v' := v') (by rw [← show Value.pointer (some ⟨b, 0, none⟩) = ptrV x.2.1 by rw [Hb.out]; rfl]; exact hown') hgrow
      obtain ⟨oa', c', rfl⟩ := hstep.slice
      have HN := Lib.hid hstep
      clear hown' hgrow hv' hstep
      go_wp2_with fail
      go_roundw
      case rel => exact ⟨CL ++ [x], R.erase x, _, _, ⟨_, _, rfl⟩, HN⟩
      case measure => rw [HN.out.rg.left_eq, hC.out.rg.left_eq]; exact Hlt.out
end Go.Proofs.Ythcgojhfbcgaiaa
