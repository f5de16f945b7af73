/-
  DERIVED. GIVEN WITH THE SEED: THE CARDS: each row of YtaljhebalgipjaaGreatDoorRows.lean that lists a variable, with what it lists TIED to the program's text (the seventh form; the later family's looks); each row that meets fmt, with fmt's text TOLD by the authors' own Lean function (tested against real Go, not proved from fmt's source: count such statements apart). THE CARD IS WHAT COUNTS. Prove the row's statement (the work); the ties are given (YtaljhebalgipjaaGreatDoorTie.lean); close each card by the builder's one call (the guide's Derived/Test/ToyasCard.lean, 'card_holds'). Laid BY PROGRAM, IN A SANDBOX (cutbox-door.mjs). By AI agents, Wed Nov 11 2026. No macro, syntax, notation, axiom, sorry.
-/
import Derived.Test.YtaljhebalgipjaaGreatDoorRows
import GoSem.ClaimSeven
namespace Go.Proofs.YtaljhebalgipjaaGreatDoor
namespace Rows

/-- THE TIED CARD OF 'laws.FnTableHead'. -/
def fnTableHeadCard : Claim7 := { stood := { row := fnTableHeadRow, standIns := [], harness := (true, "d02a45c7b2efd6ff187b5022f9ba1930741d8071e7cd0a78b4ebb217b1821af2"), looks := false }, kinds := [], alts := [], laidByText := true, laidKinds := [.data, .data, .data, .sentinel], laidTests := true, laidLooks := .later }
def FnTableHeadCardSaid : Prop := Claim7.holds Tryz.pinned (.plain (OpenSpec.ofChange fnTableHeadSpec)) fnTableHeadCard

/-- THE TIED CARD OF 'laws.FnDefinition'. -/
def fnDefinitionCard : Claim7 := { stood := { row := fnDefinitionRow, standIns := [], harness := (true, "d02a45c7b2efd6ff187b5022f9ba1930741d8071e7cd0a78b4ebb217b1821af2"), looks := false }, kinds := [], alts := [], laidByText := true, laidKinds := [.data, .data, .data, .sentinel], laidTests := true, laidLooks := .later }
def FnDefinitionCardSaid : Prop := Claim7.holds Tryz.pinned (.plain (OpenSpec.ofChange fnDefinitionSpec)) fnDefinitionCard

/-- THE SECOND FORM's CARD OF 'laws.FnTableHead'. -/
def fnTableHeadUptoCard : Claim7 := { stood := { row := fnTableHeadUptoRow, standIns := [], harness := (true, "d02a45c7b2efd6ff187b5022f9ba1930741d8071e7cd0a78b4ebb217b1821af2"), looks := false }, kinds := [], alts := [], laidByText := true, laidKinds := [.data, .data, .data, .sentinel], laidTests := true, laidLooks := .later }
def FnTableHeadUptoCardSaid : Prop := Claim7.holds Tryz.pinned (.plain (OpenSpec.upto fnTableHeadSpec)) fnTableHeadUptoCard

/-- THE SECOND FORM's CARD OF 'laws.FnDefinition'. -/
def fnDefinitionUptoCard : Claim7 := { stood := { row := fnDefinitionUptoRow, standIns := [], harness := (true, "d02a45c7b2efd6ff187b5022f9ba1930741d8071e7cd0a78b4ebb217b1821af2"), looks := false }, kinds := [], alts := [], laidByText := true, laidKinds := [.data, .data, .data, .sentinel], laidTests := true, laidLooks := .later }
def FnDefinitionUptoCardSaid : Prop := Claim7.holds Tryz.pinned (.plain (OpenSpec.upto fnDefinitionSpec)) fnDefinitionUptoCard
end Rows
end Go.Proofs.YtaljhebalgipjaaGreatDoor
