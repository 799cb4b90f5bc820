/-
  DERIVED. GIVEN WITH THE SEED: THE CARDS: each row of YtjcfacinlgogaaaGreatDoorRows.lean that lists a variable, with what it lists TIED to the program's text (the seventh form; the later family's looks); each row that meets fmt, with fmt's text TOLD by the authors' own Lean function (tested against real Go, not proved from fmt's source: count such statements apart). THE CARD IS WHAT COUNTS. Prove the row's statement (the work); the ties are given (YtjcfacinlgogaaaGreatDoorTie.lean); close each card by the builder's one call (the guide's Derived/Test/ToyasCard.lean, 'card_holds'). Laid BY PROGRAM, IN A SANDBOX (cutbox-door.mjs). By AI agents, Wed Nov 11 2026. No macro, syntax, notation, axiom, sorry.
-/
import Derived.Test.YtjcfacinlgogaaaGreatDoorRows
import GoSem.ClaimSeven
namespace Go.Proofs.YtjcfacinlgogaaaGreatDoor
namespace Rows

/-- THE TIED CARD OF 'laws.FnDecCos'. -/
def fnDecCosCard : Claim7 := { stood := { row := fnDecCosRow, standIns := [], harness := (true, "9b2dff3b9512db13fa1b38b9856a7e2743ee5b820fdfde1419b2e4a7d21a287b"), looks := false }, kinds := [], alts := [], laidByText := true, laidKinds := [.data, .data, .data, .data, .data, .data, .data, .data, .pinned, .pinned], laidTests := true, laidLooks := .later }
def FnDecCosCardSaid : Prop := Claim7.holds Tryz.pinned (.plain (OpenSpec.ofChange fnDecCosSpec)) fnDecCosCard

/-- THE TIED CARD OF 'laws.FnDecAtan'. -/
def fnDecAtanCard : Claim7 := { stood := { row := fnDecAtanRow, standIns := [], harness := (true, "9b2dff3b9512db13fa1b38b9856a7e2743ee5b820fdfde1419b2e4a7d21a287b"), looks := false }, kinds := [], alts := [], laidByText := true, laidKinds := [.data, .data, .data, .data, .data, .data, .data, .data, .data, .pinned, .pinned], laidTests := true, laidLooks := .later }
def FnDecAtanCardSaid : Prop := Claim7.holds Tryz.pinned (.plain (OpenSpec.ofChange fnDecAtanSpec)) fnDecAtanCard

/-- THE SECOND FORM's CARD OF 'laws.FnDecCos'. -/
def fnDecCosUptoCard : Claim7 := { stood := { row := fnDecCosUptoRow, standIns := [], harness := (true, "9b2dff3b9512db13fa1b38b9856a7e2743ee5b820fdfde1419b2e4a7d21a287b"), looks := false }, kinds := [], alts := [], laidByText := true, laidKinds := [.data, .data, .data, .data, .data, .data, .data, .data, .pinned, .pinned], laidTests := true, laidLooks := .later }
def FnDecCosUptoCardSaid : Prop := Claim7.holds Tryz.pinned (.plain (OpenSpec.upto fnDecCosSpec)) fnDecCosUptoCard

/-- THE SECOND FORM's CARD OF 'laws.FnDecAtan'. -/
def fnDecAtanUptoCard : Claim7 := { stood := { row := fnDecAtanUptoRow, standIns := [], harness := (true, "9b2dff3b9512db13fa1b38b9856a7e2743ee5b820fdfde1419b2e4a7d21a287b"), looks := false }, kinds := [], alts := [], laidByText := true, laidKinds := [.data, .data, .data, .data, .data, .data, .data, .data, .data, .pinned, .pinned], laidTests := true, laidLooks := .later }
def FnDecAtanUptoCardSaid : Prop := Claim7.holds Tryz.pinned (.plain (OpenSpec.upto fnDecAtanSpec)) fnDecAtanUptoCard
end Rows
end Go.Proofs.YtjcfacinlgogaaaGreatDoor
