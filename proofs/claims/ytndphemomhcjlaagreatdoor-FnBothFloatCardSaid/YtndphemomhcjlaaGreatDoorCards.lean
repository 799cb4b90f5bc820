/-
  DERIVED. GIVEN WITH THE SEED: THE CARDS: each row of YtndphemomhcjlaaGreatDoorRows.lean that lists a variable, with what it lists TIED to the program's text (the seventh form; the later family's looks); each row that meets fmt, with fmt's text TOLD by the authors' own Lean function (tested against real Go, not proved from fmt's source: count such statements apart). THE CARD IS WHAT COUNTS. Prove the row's statement (the work); the ties are given (YtndphemomhcjlaaGreatDoorTie.lean); close each card by the builder's one call (the guide's Derived/Test/ToyasCard.lean, 'card_holds'). Laid BY PROGRAM, IN A SANDBOX (cutbox-door.mjs). By AI agents, Wed Nov 11 2026. No macro, syntax, notation, axiom, sorry.
-/
import Derived.Test.YtndphemomhcjlaaGreatDoorRows
import GoSem.ClaimSeven
namespace Go.Proofs.YtndphemomhcjlaaGreatDoor
namespace Rows

/-- THE TIED CARD OF 'laws.FnBothFloat'. -/
def fnBothFloatCard : Claim7 := { stood := { row := fnBothFloatRow, standIns := [], harness := (true, "91140cc6d7b627952c71c9e5b7442ccd2e0a2ce79ecea91594b7a4f005993e06"), looks := true }, kinds := [], alts := [], laidByText := true, laidKinds := [.data, .data, .widerDeep, .widerDeep, .data, .data, .data, .data, .data, .sentinel, .sentinel, .data, .data, .data, .data, .sentinel, .sentinel, .data, .pinned, .pinned], laidTests := true, laidLooks := .later }
def FnBothFloatCardSaid : Prop := Claim7.holds Tryz.pinned (.plain (OpenSpec.ofChange fnBothFloatSpec)) fnBothFloatCard

/-- THE SECOND FORM's CARD OF 'laws.FnBothFloat'. -/
def fnBothFloatUptoCard : Claim7 := { stood := { row := fnBothFloatUptoRow, standIns := [], harness := (true, "91140cc6d7b627952c71c9e5b7442ccd2e0a2ce79ecea91594b7a4f005993e06"), looks := true }, kinds := [], alts := [], laidByText := true, laidKinds := [.data, .data, .widerDeep, .widerDeep, .data, .data, .data, .data, .data, .sentinel, .sentinel, .data, .data, .data, .data, .sentinel, .sentinel, .data, .pinned, .pinned], laidTests := true, laidLooks := .later }
def FnBothFloatUptoCardSaid : Prop := Claim7.holds Tryz.pinned (.plain (OpenSpec.upto fnBothFloatSpec)) fnBothFloatUptoCard
end Rows
end Go.Proofs.YtndphemomhcjlaaGreatDoor
