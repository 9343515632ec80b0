/-
  PROVED: laws.FnInfluxCount returns true and leaves all that was there as it was: the digest of influxdata/tdigest counts all weights, its centroids have them all, and their means are in order from the least to the greatest value.
  CONDITIONS: those of the given statement (Rows.FnInfluxCountCardSaid) and no other: slices of bytes data and more, each nil or leading to a row of any length and capacity, and any byte n; a size guard stands in the Go text itself. The package variables of math that the code reads are as the given tie has them laid.
  The text began as the kit's frame (proof-skeleton.mjs, howto/shells); the law's walk is in the texts that it imports.
-/
import Derived.WalkKit
import Derived.ProofKit
import Derived.OpenShut
import Derived.ShutString
import Derived.ChangeOld
import Derived.Below
import Derived.SevenTiedAt
import Derived.Test.YthcgojhfbcgaiaaGreatDoorRows
import Derived.Test.YthcgojhfbcgaiaaGreatDoorCards
import Derived.Test.YthcgojhfbcgaiaaGreatDoorTie
import Derived.Test.YthcgojhfbcgaiaaGreatDoorMBU
namespace Go.Proofs.YthcgojhfbcgaiaaGreatDoor.fnInfluxCount
open Go.ChangeShapes Go.WideShapes Go.ChangeAt Go.RowKit
open Go.ChangeMaps (open_string shut_string)
set_option linter.unusedVariables false

theorem own : ownKnob Tryz.prog.godebug = none := by kernel_rfl
theorem laidOut : laidOutB Tryz.prog = true := by kernel_rfl

/-- WHAT THE WALK IS TOLD OF A SLICE OF INTEGERS THAT CAME IN: it is nil; or it leads to a row of 'cap' cells, the numbers 'zs' (the first 'len' are its elements, the rest its spare room), each fitting its kind. -/
def IsRow (k : IntKind) (w : World) (a : Option Addr) (len cap : Nat) (zs : List Int) : Prop :=
  (a = none ∧ len = 0 ∧ cap = 0 ∧ zs = []) ∨
  ∃ x, a = some x ∧ len ≤ cap ∧ cap ≤ maxLen ∧ zs.length = cap ∧ (∀ i, i < zs.length → w.cell? (x.add i) = some (.int k (zs.getD i 0))) ∧ ∀ n ∈ zs, (Lit.int k n).wf = true

/-! ### STEP 1: THE WALK: the Go text returns true, AND WRITES NOTHING THAT WAS THERE: 'Below w.heap.size w w'' (Derived/Below.lean: '.refl', '.alloc', '.drew', '.setCell' at a new block, '.trans'). Open each 'IsRow' by 'rcases' AHEAD of 'go_enter'; part every test ahead of the walk. -/
theorem walk (a0 : Option Addr) (len0 cap0 : Nat) (z0 : List Int) (a1 : Option Addr) (len1 cap1 : Nat) (z1 : List Int) (a2 : Int) (w : World) (w0 : IsRow .u8 w a0 len0 cap0 z0) (w1 : IsRow .u8 w a1 len1 cap1 z1) (w2 : (Lit.int .u8 a2).wf = true) (t1 : Tab6 w 1 cosK) (t2 : Tab6 w 2 sinK) (b3 : 3 ≤ w.heap.size) :
    Calls Tryz.prog 3 #[.slice a0 len0 cap0, .slice a1 len1 cap1, .int .u8 a2] w fun e w' => e = .returned (.bool true) ∧ Below w.heap.size w w' := by
  obtain ⟨z, h1, h2, h3⟩ := row_bytes w0
  obtain ⟨z', h1', h2', h3'⟩ := row_bytes w1
  have hb := byte_wf' w2
  obtain ⟨n, rfl⟩ : ∃ n : Nat, a2 = (n : Int) := ⟨a2.toNat, by omega⟩
  exact lawIC a0 len0 cap0 a1 len1 cap1 n z z' (by omega) w h1 h2 h3 h2' h3' t1 t2 b3

/-! ### THE ROW's STEP: WRITTEN OUT: LEAVE IT -/
set_option maxRecDepth 100000 in
theorem lifted (os : Os) (started : os.Started) (H : Type) (enc : TypeId × Value → H) :
    ReturnsInHanded {} Tryz.checked os 3 .any (fun w args => (Rows.fnInfluxCountSpec.pre enc Tryz.prog Tryz.f3 [] false w args ∧ laidMetH Tryz.prog laidL w) ∧ sizedMet enc Tryz.prog Tryz.f3 (OpenSpec.ofChange Rows.fnInfluxCountSpec) false w args)
      (Rows.fnInfluxCountSpec.post enc Tryz.prog Tryz.f3 false true false false) := by
  refine returnsInHanded_of_change_and (C := Tryz.checked) (X := fun w _ => laidMetH Tryz.prog laidL w) (fun _ _ _ hh h => h.of_heap hh) own started (by kernel_rfl) Tryz.func3
    (ChangeSpec.witness_shaped (enc := enc) (C := Tryz.checked) (os := os) (X := fun w _ => laidMetH Tryz.prog laidL w) false (World.doorLaid Tryz.prog 400 os) #[.slice none 0 0, .slice none 0 0, .int .u8 0] 8 rfl (World.shaped_of_RefB (by kernel_rfl) (by kernel_rfl)) (by kernel_rfl) (by kernel_rfl) (by kernel_rfl) (door_met os _)) ?_
  intro W base args ds gs before hval0 hW _ _ hL _
  have hval : ∀ (j : Nat) t v, Tryz.f3.params[j]? = some t → args[j]? = some v → Value.okWide Tryz.prog W .any base t v := hval0
  have hW' := hW
  obtain ⟨p, q, hA0, hV, rfl, hfz, hnd⟩ := hW
  have hA : DataW.TrodAll enc Tryz.prog W 0 (fun _ => true) true Tryz.f3.params.toList args.toList ds p := hA0
  rw [Tryz.params3] at hA hval
  obtain ⟨v0, vs0, d0, ds0, p0, q0, hargs, rfl, rfl, h0, r0⟩ := trodAll_cons hA
  obtain ⟨v1, vs1, d1, ds1, p1, q1, rfl, rfl, rfl, h1, r1⟩ := trodAll_cons r0
  obtain ⟨v2, vs2, d2, ds2, p2, q2, rfl, rfl, rfl, h2, r2⟩ := trodAll_cons r1
  obtain ⟨rfl, rfl, rfl⟩ := trodAll_nil r2
  obtain rfl : args = #[v0, v1, v2] := by cases args; simp_all
  obtain ⟨rfl, rfl⟩ := trodVars_none hV
  obtain ⟨a0, len0, cap0, rfl⟩ := okWide_slice Tryz.underlying22 (hval 0 22 v0 rfl rfl)
  have k0 := h0
  have lt0 : ∀ x ∈ p0, x.block < W.heap.size := by obtain ⟨m, hm⟩ := k0; exact DataW.trod_lt m _ _ _ hm
  obtain ⟨z0, w0⟩ : ∃ zs, IsRow .u8 W a0 len0 cap0 zs := by
    obtain ⟨fuel, hf⟩ := h0
    rcases open_ints Tryz.underlying22 Tryz.underlying5 (by kernel_rfl) hf with ⟨hcs, _⟩ | ⟨x, l, c, zs, hcs, _, hl, hm, hz, _, hcell, hwz⟩
    · simp [Value.cells] at hcs
      obtain ⟨rfl, rfl, rfl⟩ := hcs
      exact ⟨[], .inl ⟨rfl, rfl, rfl, rfl⟩⟩
    · simp [Value.cells] at hcs
      obtain ⟨rfl, rfl, rfl⟩ := hcs
      exact ⟨zs, .inr ⟨_, rfl, hl, hm, by simpa using hz, hcell, hwz⟩⟩
  obtain ⟨a1, len1, cap1, rfl⟩ := okWide_slice Tryz.underlying22 (hval 1 22 v1 rfl rfl)
  have k1 := h1
  have lt1 : ∀ x ∈ p1, x.block < W.heap.size := by obtain ⟨m, hm⟩ := k1; exact DataW.trod_lt m _ _ _ hm
  obtain ⟨z1, w1⟩ : ∃ zs, IsRow .u8 W a1 len1 cap1 zs := by
    obtain ⟨fuel, hf⟩ := h1
    rcases open_ints Tryz.underlying22 Tryz.underlying5 (by kernel_rfl) hf with ⟨hcs, _⟩ | ⟨x, l, c, zs, hcs, _, hl, hm, hz, _, hcell, hwz⟩
    · simp [Value.cells] at hcs
      obtain ⟨rfl, rfl, rfl⟩ := hcs
      exact ⟨[], .inl ⟨rfl, rfl, rfl, rfl⟩⟩
    · simp [Value.cells] at hcs
      obtain ⟨rfl, rfl, rfl⟩ := hcs
      exact ⟨zs, .inr ⟨_, rfl, hl, hm, by simpa using hz, hcell, hwz⟩⟩
  obtain ⟨a2, rfl, rfl, rfl, w2⟩ := open_int Tryz.underlying5 (hval 2 5 v2 rfl rfl) h2
  clear hA0 hval0
  obtain ⟨t1, t2, b3⟩ := of_laid hL
  refine (walk a0 len0 cap0 z0 a1 len1 cap1 z1 a2 W w0 w1 w2 t1 t2 b3).mono fun e W' ⟨he, bel⟩ => ?_
  subst he
  exact ⟨_, rfl, _, _, _, [], _, [], hW', trodAll_mk1 (shut_bool Tryz.underlying4 _), (trodAll_cons_mk (Below.trod laidOut (by kernel_rfl) (of_decide_eq_true (by kernel_rfl)) k0 bel lt0) (trodAll_cons_mk (Below.trod laidOut (by kernel_rfl) (of_decide_eq_true (by kernel_rfl)) k1 bel lt1) (trodAll_cons_mk (shut_int Tryz.underlying5 w2) trodAll_mk0))), rfl, bel.frame _, fun h => by cases h⟩

theorem over : Rows.fnInfluxCountRow.holds Tryz.pinned (OpenSpec.ofChange Rows.fnInfluxCountSpec) :=
  OpenClaim.holds_of_wide 3 Tryz.f3 rfl rfl rfl rfl rfl rfl rfl ⟨rfl, rfl, rfl, rfl, rfl⟩ rfl rfl rfl rfl rfl (by kernel_rfl) Tryz.func3 (by kernel_rfl)
    (of_decide_eq_true (by kernel_rfl)) (by unfold Func.isWrapper; first | (rw [if_pos (by decide +kernel)]; kernel_rfl) | (rw [if_neg (by decide +kernel)]; exact ⟨rfl, rfl⟩))
    (fun os started H enc _ => lifted os started H enc)

theorem proved : Rows.FnInfluxCountSaid := over

/-- ████ THE STATEMENT: THE TIED CARD ████ -/
theorem card_holds : Rows.FnInfluxCountCardSaid :=
  Claim7.holds_tied_plain_at .later [] [.data, .data, .data] true (true, "8f87ce2f1e383657e464cb810bbb7fb096aa26fae84467188641cc2be52df4b6") false
    proved (fun _ h => by cases h) (by kernel_rfl) (fun _ h => by cases h) fnInfluxCount_row_tie rfl ⟨rfl, rfl⟩ (by kernel_rfl) rfl
    (fun f fn hf hfn => by
      obtain rfl : f = 3 := Option.some.inj ((show Tryz.prog.funcNamed "loop.example/pub-digestedranks/laws.FnInfluxCount" = some 3 by kernel_rfl).symm.trans hf) |>.symm
      obtain rfl : fn = Tryz.f3 := (Option.some.inj (Tryz.func3.symm.trans hfn)).symm
      exact ⟨by kernel_rfl, fun j t ht => by
        rw [Tryz.params3] at ht
        have hm : t ∈ [22,22,5] := by simpa using Array.mem_of_getElem? ht
        have hall : ([22,22,5].all fun u => !Tryz.prog.wantsStandIn u) = true := by kernel_rfl
        exact (show Tryz.prog.wantsStandIn t = false by simpa using List.all_eq_true.1 hall t hm)⟩)
    (by kernel_rfl)
#print axioms card_holds
end Go.Proofs.YthcgojhfbcgaiaaGreatDoor.fnInfluxCount
