/- spec.Words. Conditions: the bytes lie in memory. -/
import Derived.Test.YthcgojhfbcgaiaaTopJ
import Derived.Laws.IdiomStrings
namespace Go.Proofs.Ythcgojhfbcgaiaa
open Go.RowKit Go.Maps Go.Sort Go.Proofs

/-- The word of a byte. -/
def wordN (v : Nat) : Word := [119, UInt8.ofNat v]
def wordsZ (k : Nat) (z : Nat → Nat) (n : Nat) : List Word := (List.range n).map fun i => wordN (97 + z i % k)
theorem wordsZ_succ (k : Nat) (z : Nat → Nat) (n : Nat) : (wordsZ k z (n + 1)).map strV = (wordsZ k z n).map strV ++ [strV (wordN (97 + z n % k))] := by simp [wordsZ, List.range_succ]
theorem wordsZ_len (k : Nat) (z : Nat → Nat) (n : Nat) : (wordsZ k z n).length = n := by simp [wordsZ]
def kindsZ (k : Nat) : List Word := (List.range k).map fun r => wordN (97 + r)
theorem kindsZ_len (k : Nat) : (kindsZ k).length = k := by simp [kindsZ]
theorem wordsZ_kind {k : Nat} (hk : 1 ≤ k) (z : Nat → Nat) (n : Nat) : ∀ s ∈ wordsZ k z n, s ∈ kindsZ k := fun s hs => by
  obtain ⟨i, hi, rfl⟩ := List.mem_map.1 hs
  exact List.mem_map.2 ⟨z i % k, List.mem_range.2 (Nat.mod_lt _ hk), rfl⟩
theorem wordsZ_short (k : Nat) (z : Nat → Nat) (n : Nat) : ∀ s ∈ wordsZ k z n, s.length ≤ maxLen := fun s hs => by
  obtain ⟨i, hi, rfl⟩ := List.mem_map.1 hs
  simp [wordN, maxLen]
theorem conv_word (w : World) (v : Nat) (hv : v ≤ 255) : (convert 32 9 (.slice (some ⟨w.heap.size, 0, none⟩) 2 2)).run Try.prog (w.alloc (.cells #[.int .u8 119, .int .u8 (v : Int)] 5)) = .ok (strV (wordN v)) (w.alloc (.cells #[.int .u8 119, .int .u8 (v : Int)] 5)) := by
  refine run_convert_bytes_back (P := Try.prog) _ 32 9 5 ⟨w.heap.size, 0, none⟩ 2 (wordN v) Try.underlying32 Try.underlying5 Try.underlying9 fun j hj => ?_
  rw [Addr.add_lit, Nat.zero_add]
  refine cell_of (hp_at w _ _ rfl) ?_
  have hj' : j < 2 := hj
  match j, hj' with
  | 0, _ => rfl
  | 1, _ => simp [wordN, Nat.mod_eq_of_lt (show v < 256 by omega)]

set_option maxHeartbeats 1000000 in
set_option maxRecDepth 100000 in
theorem words_calls (len cap k : Nat) (oa : Option Addr) (z : Nat → Nat) (w : World) (hlen : len ≤ maxLen) (hk : 1 ≤ k) (hk8 : k ≤ 8)
    (hc : 0 < len → ∃ b off, oa = some ⟨b, off, none⟩ ∧ b < w.heap.size ∧ ∀ i, i < len → w.cell? ⟨b, off + i, none⟩ = some (.int .u8 (z i))) (hz : ∀ i, z i < 256) :
    Calls Try.prog 16 #[.slice oa len cap, .int .i64 k] w fun e w' => ∃ oa' c', e = .returned (.slice oa' (min len 60) c') ∧ Hid (HRow w' w.heap.size oa' (wordsZ k z (min len 60)) ∧ RowKit.Below w.heap.size w w') := by
  obtain ⟨i0, hi, hz0, hz1, hz2⟩ := info_parts info_S
  obtain ⟨N, hN⟩ : ∃ N, N = min len 60 := ⟨_, rfl⟩
  have hNl : N ≤ len := by omega
  have hNm : N ≤ 60 := by omega
  have hor : N = len ∨ N = 60 := by omega
  have HC := Lib.hid hc
  have HZ := Lib.hid hz
  have Hor := Lib.hid hor
  have hki : (k : Int) ≤ 8 := by omega
  have hki1 : (1 : Int) ≤ k := by omega
  have hleni : (len : Int) ≤ 9223372036854775807 := by unfold maxLen at hlen; omega
  rw [← hN]
  have HNl := Lib.hid hNl
  have HNm := Lib.hid hNm
  clear hc hz hor hN hlen hNl hNm
  go_enter Try.func16, Try.ntmps16
  go_wp2_with fail
  go_loopw [6, 5] (fun i v wr => ∃ j : Nat, i = .int .i64 j ∧ Hid (j ≤ N) ∧ (∃ oa oc, v = .slice oa j oc) ∧ Hid (RowKit.Below w.heap.size w wr) ∧ Hid (wr.ownsRow w.heap.size 9 1 v j ((wordsZ k z j).map strV)))
    (fun i _ _ => N - (intOf i).toNat)
  case atStart => exact ⟨0, rfl, Nat.zero_le _, ⟨_, _, rfl⟩, Lib.hid (RowKit.Below.refl _ _), Lib.hid (World.ownsRow_nil _ _ _ _)⟩
  case round =>
    obtain ⟨j, rfl, hj, ⟨oa, oc, rfl⟩, hbl, hown⟩ := hrel
    rcases Nat.lt_or_ge j N with hlt | hge
    · obtain ⟨b, off, rfl, hb, hcell⟩ := HC.out (by have := HNl.out; omega)
      have hcx : wr.cell? ⟨b, off + j, none⟩ = some (.int .u8 (z j)) := (hbl.out.cell (by exact hb)).trans (hcell j (by have := HNl.out; omega))
      have hzk := HZ.out j
      have t1 : (j : Int) < (len : Int) := by have := HNl.out; omega
      have t2 : (j : Int) < 60 := by have := HNm.out; omega
      obtain ⟨y, hy⟩ : ∃ y, y = z j := ⟨_, rfl⟩
      have hsucc := wordsZ_succ k z j
      rw [← hy] at hcx hzk hsucc
      have hy2 : (y : Int) ≤ 255 := by omega
      obtain ⟨v, hv⟩ : ∃ v, v = 97 + y % k := ⟨_, rfl⟩
      rw [← hv] at hsucc
      have hr : (97 + (y : Int) % (k : Int)) % 256 = (v : Int) := by
        have h1 : y % k < k := Nat.mod_lt _ (by omega)
        rw [← Int.natCast_emod]
        omega
      have hv2 : v ≤ 255 := by
        have h1 : y % k < k := Nat.mod_lt _ (by omega)
        omega
      have hconv := conv_word wr v hv2
      obtain ⟨s, hs⟩ : ∃ s, s = wordN v := ⟨_, rfl⟩
      rw [← hs] at hconv hsucc
      have Hsucc := Lib.hid hsucc
      have Hown := Lib.hid ((hown.out.alloc (.cells #[.int .u8 119, .int .u8 (v : Int)] 5)).alloc (.cells #[strV s] 9))
      have HJ : Hid (j ≤ 60) := Lib.hid (by have := HNm.out; omega)
      have hsz := hbl.out.size
      have Hsz := Lib.hid hsz
      have hj1 : Hid (j + 1 ≤ N) := Lib.hid hlt
      clear hcell hzk hy hv hv2 hs hsucc hsz
      go_wp2_with (first
        | (at_builtin; refine wpList_append_own _ rfl (.tmp 17) (.tmp 28) 40 rfl w.heap.size 9 i0 (.string ⟨#[]⟩) 1 16 Try.underlying40 hi hz0 hz1 hz2 rfl (by decide) _ _ _ rfl Hown.out ⟨wr.heap.size + 1, 0, none⟩ 1 1 [strV s] rfl rfl ?c1 ?c2 ?c3 ?c4 ?c5 ?_))
      case c1 =>
        intro j u hj
        match j, hj with
        | 0, hj => simp at hj; subst hj; simp [Addr.add]
      case c2 => intro u hu; simp at hu; subst hu; rfl
      case c3 => have := HJ.out; unfold maxLen; omega
      case c4 => have := HJ.out; omega
      case c5 => have := Hsz.out; simp; omega
      intro v' w9 hown' hgrow hv'
      have hb9 : RowKit.Below w.heap.size w w9 := ((hbl.out.alloc Hsz.out _).alloc (by have := Hsz.out; simp; omega) _).grown hgrow (by have := Hsz.out; simp; omega) fun q hq => (Hown.out.lt q hq).1
      rw [← Hsucc.out] at hown'
      obtain ⟨a15, c15, rfl⟩ : ∃ a c, v' = .slice a (j + 1) c := by
        rcases hown'.2 with ⟨h1, h2⟩ | ⟨g, cap, cur, h1, _⟩
        · omega
        · exact ⟨_, _, h1⟩
      have HO9 := Lib.hid hown'
      have HB9 := Lib.hid hb9
      clear hown' hgrow hv' hb9
      go_wp2_with fail
      go_roundw
      case rel => exact ⟨j + 1, by go_num, hj1, ⟨_, _, rfl⟩, HB9, HO9⟩
      case measure => simp [intOf]; omega
    · obtain rfl : j = N := by have := hj.out; omega
      have hr1 := Lib.hid (own_hrow hown.out (wordsZ_len k z j)).1
      rcases Hor.out with ho | ho
      · subst ho
        clear hown hj hge
        go_wp2_with fail
        all_goals
          go_ret
          exact ⟨oa, ⟨oc, rfl⟩, Lib.hid ⟨hr1.out, hbl.out⟩⟩
      · subst ho
        clear hown hj hge
        go_wp2_with fail
        all_goals
          go_ret
          exact ⟨oa, ⟨oc, rfl⟩, Lib.hid ⟨hr1.out, hbl.out⟩⟩
end Go.Proofs.Ythcgojhfbcgaiaa
