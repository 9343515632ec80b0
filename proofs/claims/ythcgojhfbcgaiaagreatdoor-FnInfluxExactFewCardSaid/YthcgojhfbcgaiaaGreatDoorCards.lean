/-
  DERIVED. GIVEN WITH THE SEED: THE CARDS: each row of YthcgojhfbcgaiaaGreatDoorRows.lean that lists a variable, with what it lists TIED to the program's text (the seventh form; the later family's looks); each row that meets fmt, with fmt's text TOLD by the authors' own Lean function (tested against real Go, not proved from fmt's source: count such statements apart). THE CARD IS WHAT COUNTS. Prove the row's statement (the work); the ties are given (YthcgojhfbcgaiaaGreatDoorTie.lean); close each card by the builder's one call (the guide's Derived/Test/ToyasCard.lean, 'card_holds'). Laid BY PROGRAM, IN A SANDBOX (cutbox-door.mjs). By AI agents, Wed Nov 11 2026. No macro, syntax, notation, axiom, sorry.
-/
import Derived.Test.YthcgojhfbcgaiaaGreatDoorRows
import GoSem.ClaimSeven
namespace Go.Proofs.YthcgojhfbcgaiaaGreatDoor
namespace Rows

/-- THE TIED CARD OF 'laws.FnInfluxCount'. -/
def fnInfluxCountCard : Claim7 := { stood := { row := fnInfluxCountRow, standIns := [], harness := (true, "8f87ce2f1e383657e464cb810bbb7fb096aa26fae84467188641cc2be52df4b6"), looks := false }, kinds := [], alts := [], laidByText := true, laidKinds := [.data, .data, .data], laidTests := true, laidLooks := .later }
def FnInfluxCountCardSaid : Prop := Claim7.holds Tryz.pinned (.plain (OpenSpec.ofChange fnInfluxCountSpec)) fnInfluxCountCard

/-- THE TIED CARD OF 'laws.FnInfluxWithin'. -/
def fnInfluxWithinCard : Claim7 := { stood := { row := fnInfluxWithinRow, standIns := [], harness := (true, "8f87ce2f1e383657e464cb810bbb7fb096aa26fae84467188641cc2be52df4b6"), looks := false }, kinds := [], alts := [], laidByText := true, laidKinds := [.data, .data, .data], laidTests := true, laidLooks := .later }
def FnInfluxWithinCardSaid : Prop := Claim7.holds Tryz.pinned (.plain (OpenSpec.ofChange fnInfluxWithinSpec)) fnInfluxWithinCard

/-- THE TIED CARD OF 'laws.FnInfluxExactFew'. -/
def fnInfluxExactFewCard : Claim7 := { stood := { row := fnInfluxExactFewRow, standIns := [], harness := (true, "8f87ce2f1e383657e464cb810bbb7fb096aa26fae84467188641cc2be52df4b6"), looks := false }, kinds := [], alts := [], laidByText := true, laidKinds := [.data, .data, .data], laidTests := true, laidLooks := .later }
def FnInfluxExactFewCardSaid : Prop := Claim7.holds Tryz.pinned (.plain (OpenSpec.ofChange fnInfluxExactFewSpec)) fnInfluxExactFewCard

/-- THE SECOND FORM's CARD OF 'laws.FnInfluxCount'. -/
def fnInfluxCountUptoCard : Claim7 := { stood := { row := fnInfluxCountUptoRow, standIns := [], harness := (true, "8f87ce2f1e383657e464cb810bbb7fb096aa26fae84467188641cc2be52df4b6"), looks := false }, kinds := [], alts := [], laidByText := true, laidKinds := [.data, .data, .data], laidTests := true, laidLooks := .later }
def FnInfluxCountUptoCardSaid : Prop := Claim7.holds Tryz.pinned (.plain (OpenSpec.upto fnInfluxCountSpec)) fnInfluxCountUptoCard

/-- THE SECOND FORM's CARD OF 'laws.FnInfluxWithin'. -/
def fnInfluxWithinUptoCard : Claim7 := { stood := { row := fnInfluxWithinUptoRow, standIns := [], harness := (true, "8f87ce2f1e383657e464cb810bbb7fb096aa26fae84467188641cc2be52df4b6"), looks := false }, kinds := [], alts := [], laidByText := true, laidKinds := [.data, .data, .data], laidTests := true, laidLooks := .later }
def FnInfluxWithinUptoCardSaid : Prop := Claim7.holds Tryz.pinned (.plain (OpenSpec.upto fnInfluxWithinSpec)) fnInfluxWithinUptoCard

/-- THE SECOND FORM's CARD OF 'laws.FnInfluxExactFew'. -/
def fnInfluxExactFewUptoCard : Claim7 := { stood := { row := fnInfluxExactFewUptoRow, standIns := [], harness := (true, "8f87ce2f1e383657e464cb810bbb7fb096aa26fae84467188641cc2be52df4b6"), looks := false }, kinds := [], alts := [], laidByText := true, laidKinds := [.data, .data, .data], laidTests := true, laidLooks := .later }
def FnInfluxExactFewUptoCardSaid : Prop := Claim7.holds Tryz.pinned (.plain (OpenSpec.upto fnInfluxExactFewSpec)) fnInfluxExactFewUptoCard
end Rows
end Go.Proofs.YthcgojhfbcgaiaaGreatDoor
