/-
  No cell of these rows narrows 'for every input' (looked for: loops, veiled, ifaces, maps, wideKeys, modest, calm, conditions, laid).
  DERIVED. THE GIVEN ROWS OF THIS SEAT. 4 by the template 'for every input the law returns true; each argument reads behind the call as it read before'; 0 by the template 'total and deterministic' (their statements: YthcgojhfbcgaiaaTotals.lean).
  GIVEN WITH THE SEED: the statements are not yours to turn. If you find one false, say at which input.
  Laid BY PROGRAM, IN A SANDBOX (cutbox-rows.mjs): the forced cells as the released guide's own fill.sh prints them over the translation 1503f3c1840d72d5… (all of the seat's roots in one cut). By AI agents, Wed Nov 11 2026. No macro, syntax, notation, axiom, sorry.
-/
import Derived.Test.YthcgojhfbcgaiaaChecked
import GoSem.Claim
import GoSem.ClaimJoined
import GoSem.ClaimMapViews
import Derived.JoinedTies
import Derived.KernelRfl
namespace Go.Proofs.Ythcgojhfbcgaiaa
/- THE CELL 'sum', in the pinned program and in every row, IS THE sha256 OF THE DUMP (.gsa) THAT YthcgojhfbcgaiaaProg.lean LOADS. Nothing in Lean hashes anything: it is a label: what it is worth is what the hold of that sum in a sandbox is worth. -/
noncomputable def Try.pinned : Pinned := { name := "ythcgojhfbcgaiaa", sum := "1503f3c1840d72d5e94853d15c972d08f1f6f5a8798fcdb442b13375f3e44c23", checked := Try.checked }
namespace Rows
def none {H : Type} : Left H := { results := [], args := [] }

/-- 'laws.FnTargeted': WHATEVER THE INPUT: true; the input reads as it did. -/
def fnTargetedSpec : ChangeSpec := { name := "fnTargeted", fn := fun _ => fun
  | [d1, d2, d3] => { results := [.lit (.bool true)], args := [d1, d2, d3] }
  | _ => none }
def fnTargetedRow : OpenClaim := { program := "ythcgojhfbcgaiaa", sum := "1503f3c1840d72d5e94853d15c972d08f1f6f5a8798fcdb442b13375f3e44c23", func := "loop.example/pub-digestedranks/laws.FnTargeted", spec := "fnTargeted", inPlace := ["math.archFloor", "math.Float64bits", "math.Float64frombits", "math.archTrunc", "math.archMax", "math.archCeil"], unfollowed := true, recurses := true, apart := false }
def FnTargetedSaid : Prop := fnTargetedRow.holds Try.pinned (OpenSpec.ofChange fnTargetedSpec)

/-- ITS FALSE NEIGHBOUR: 'it returns false'. Refute it at one input. -/
def fnTargetedWrong : ChangeSpec := { name := "fnTargeted", fn := fun _ => fun
  | [d1, d2, d3] => { results := [.lit (.bool false)], args := [d1, d2, d3] }
  | _ => none }
def FnTargetedWrongFalsely : Prop := fnTargetedRow.holds Try.pinned (OpenSpec.ofChange fnTargetedWrong)

/-- 'laws.FnBins': WHATEVER THE INPUT: true; the input reads as it did. -/
def fnBinsSpec : ChangeSpec := { name := "fnBins", fn := fun _ => fun
  | [d1, d2] => { results := [.lit (.bool true)], args := [d1, d2] }
  | _ => none }
def fnBinsRow : OpenClaim := { program := "ythcgojhfbcgaiaa", sum := "1503f3c1840d72d5e94853d15c972d08f1f6f5a8798fcdb442b13375f3e44c23", func := "loop.example/pub-digestedranks/laws.FnBins", spec := "fnBins", inPlace := ["math.archFloor", "math.Float64bits", "math.Float64frombits", "math.archTrunc", "math.archMax", "math.archCeil"], unfollowed := true, recurses := true, apart := false }
def FnBinsSaid : Prop := fnBinsRow.holds Try.pinned (OpenSpec.ofChange fnBinsSpec)

/-- ITS FALSE NEIGHBOUR: 'it returns false'. Refute it at one input. -/
def fnBinsWrong : ChangeSpec := { name := "fnBins", fn := fun _ => fun
  | [d1, d2] => { results := [.lit (.bool false)], args := [d1, d2] }
  | _ => none }
def FnBinsWrongFalsely : Prop := fnBinsRow.holds Try.pinned (OpenSpec.ofChange fnBinsWrong)

/-- 'laws.FnExactTargeted': WHATEVER THE INPUT: true; the input reads as it did. -/
def fnExactTargetedSpec : ChangeSpec := { name := "fnExactTargeted", fn := fun _ => fun
  | [d1, d2] => { results := [.lit (.bool true)], args := [d1, d2] }
  | _ => none }
def fnExactTargetedRow : OpenClaim := { program := "ythcgojhfbcgaiaa", sum := "1503f3c1840d72d5e94853d15c972d08f1f6f5a8798fcdb442b13375f3e44c23", func := "loop.example/pub-digestedranks/laws.FnExactTargeted", spec := "fnExactTargeted", inPlace := ["math.archFloor", "math.Float64bits", "math.Float64frombits", "math.archTrunc", "math.archMax", "math.archCeil"], unfollowed := true, recurses := true, apart := false }
def FnExactTargetedSaid : Prop := fnExactTargetedRow.holds Try.pinned (OpenSpec.ofChange fnExactTargetedSpec)

/-- ITS FALSE NEIGHBOUR: 'it returns false'. Refute it at one input. -/
def fnExactTargetedWrong : ChangeSpec := { name := "fnExactTargeted", fn := fun _ => fun
  | [d1, d2] => { results := [.lit (.bool false)], args := [d1, d2] }
  | _ => none }
def FnExactTargetedWrongFalsely : Prop := fnExactTargetedRow.holds Try.pinned (OpenSpec.ofChange fnExactTargetedWrong)

/-- 'laws.FnExactTop': WHATEVER THE INPUT: true; the input reads as it did. -/
def fnExactTopSpec : ChangeSpec := { name := "fnExactTop", fn := fun _ => fun
  | [d1, d2] => { results := [.lit (.bool true)], args := [d1, d2] }
  | _ => none }
def fnExactTopRow : OpenClaim := { program := "ythcgojhfbcgaiaa", sum := "1503f3c1840d72d5e94853d15c972d08f1f6f5a8798fcdb442b13375f3e44c23", func := "loop.example/pub-digestedranks/laws.FnExactTop", spec := "fnExactTop", inPlace := ["math.archFloor", "math.Float64bits", "math.Float64frombits", "math.archTrunc", "math.archMax", "math.archCeil"], unfollowed := true, recurses := true, apart := false }
def FnExactTopSaid : Prop := fnExactTopRow.holds Try.pinned (OpenSpec.ofChange fnExactTopSpec)

/-- ITS FALSE NEIGHBOUR: 'it returns false'. Refute it at one input. -/
def fnExactTopWrong : ChangeSpec := { name := "fnExactTop", fn := fun _ => fun
  | [d1, d2] => { results := [.lit (.bool false)], args := [d1, d2] }
  | _ => none }
def FnExactTopWrongFalsely : Prop := fnExactTopRow.holds Try.pinned (OpenSpec.ofChange fnExactTopWrong)

/- THE SECOND FORM. 'bulk': how many values and letters a reading holds, each counted each time it is reached (what is shared counts as often as it is met; a slice's spare places count too). A statement '..UptoSaid' is the law's where the arguments, and the package variables that the reading takes, are together of bulk at most 1048576: NARROWER than '..Said'. Prove '..Said' where nothing that the law and all that it calls make is longer than what came in: it says more and counts as full. Else prove '..UptoSaid'. A law counts once. -/
mutual
def uptoBulk {H : Type} : DataW H → Nat
  | .lit (.string bytes) => bytes.length + 1
  | .lit _ => 1
  | .nil => 1
  | .ptr d => uptoBulk d + 1
  | .slice elems spare => uptoBulkAll elems + uptoBulkAll spare + 1
  | .agg parts => uptoBulkAll parts + 1
  | .iface _ d => uptoBulk d + 1
  | .map entries => uptoBulkEntries entries + 1
  | .held _ => 1
def uptoBulkAll {H : Type} : List (DataW H) → Nat
  | [] => 0
  | d :: r => uptoBulk d + uptoBulkAll r
def uptoBulkEntries {H : Type} : List (Lit × DataW H) → Nat
  | [] => 0
  | x :: r => uptoBulkEntry x + uptoBulkEntries r
def uptoBulkEntry {H : Type} : Lit × DataW H → Nat
  | (.string bytes, d) => bytes.length + uptoBulk d + 1
  | (_, d) => uptoBulk d + 1
 end
def uptoSmall : (H : Type) → List (DataW H) → Bool := fun _ ds => decide (uptoBulkAll ds ≤ 1048576)
def OpenSpec.upto (s : _root_.Go.ChangeSpec) : _root_.Go.OpenSpec := { _root_.Go.OpenSpec.ofChange s with cond := some uptoSmall }

/-- 'laws.FnTargeted', WHERE WHAT IT READS IS OF BULK AT MOST 1048576: true; the input reads as it did. -/
def fnTargetedUptoRow : OpenClaim := { program := "ythcgojhfbcgaiaa", sum := "1503f3c1840d72d5e94853d15c972d08f1f6f5a8798fcdb442b13375f3e44c23", func := "loop.example/pub-digestedranks/laws.FnTargeted", spec := "fnTargeted", inPlace := ["math.archFloor", "math.Float64bits", "math.Float64frombits", "math.archTrunc", "math.archMax", "math.archCeil"], unfollowed := true, recurses := true, apart := false, narrowed := true }
def FnTargetedUptoSaid : Prop := fnTargetedUptoRow.holds Try.pinned (OpenSpec.upto fnTargetedSpec)

/-- 'laws.FnBins', WHERE WHAT IT READS IS OF BULK AT MOST 1048576: true; the input reads as it did. -/
def fnBinsUptoRow : OpenClaim := { program := "ythcgojhfbcgaiaa", sum := "1503f3c1840d72d5e94853d15c972d08f1f6f5a8798fcdb442b13375f3e44c23", func := "loop.example/pub-digestedranks/laws.FnBins", spec := "fnBins", inPlace := ["math.archFloor", "math.Float64bits", "math.Float64frombits", "math.archTrunc", "math.archMax", "math.archCeil"], unfollowed := true, recurses := true, apart := false, narrowed := true }
def FnBinsUptoSaid : Prop := fnBinsUptoRow.holds Try.pinned (OpenSpec.upto fnBinsSpec)

/-- 'laws.FnExactTargeted', WHERE WHAT IT READS IS OF BULK AT MOST 1048576: true; the input reads as it did. -/
def fnExactTargetedUptoRow : OpenClaim := { program := "ythcgojhfbcgaiaa", sum := "1503f3c1840d72d5e94853d15c972d08f1f6f5a8798fcdb442b13375f3e44c23", func := "loop.example/pub-digestedranks/laws.FnExactTargeted", spec := "fnExactTargeted", inPlace := ["math.archFloor", "math.Float64bits", "math.Float64frombits", "math.archTrunc", "math.archMax", "math.archCeil"], unfollowed := true, recurses := true, apart := false, narrowed := true }
def FnExactTargetedUptoSaid : Prop := fnExactTargetedUptoRow.holds Try.pinned (OpenSpec.upto fnExactTargetedSpec)

/-- 'laws.FnExactTop', WHERE WHAT IT READS IS OF BULK AT MOST 1048576: true; the input reads as it did. -/
def fnExactTopUptoRow : OpenClaim := { program := "ythcgojhfbcgaiaa", sum := "1503f3c1840d72d5e94853d15c972d08f1f6f5a8798fcdb442b13375f3e44c23", func := "loop.example/pub-digestedranks/laws.FnExactTop", spec := "fnExactTop", inPlace := ["math.archFloor", "math.Float64bits", "math.Float64frombits", "math.archTrunc", "math.archMax", "math.archCeil"], unfollowed := true, recurses := true, apart := false, narrowed := true }
def FnExactTopUptoSaid : Prop := fnExactTopUptoRow.holds Try.pinned (OpenSpec.upto fnExactTopSpec)

end Rows
end Go.Proofs.Ythcgojhfbcgaiaa
