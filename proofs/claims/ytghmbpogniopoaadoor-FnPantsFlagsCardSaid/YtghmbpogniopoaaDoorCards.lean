/-
  DERIVED. GIVEN WITH THE SEED: THE CARDS: each row of YtghmbpogniopoaaDoorRows.lean that lists a variable, with what it lists TIED to the program's text (the seventh form; the later family's looks); each row that meets fmt, with fmt's text TOLD by the authors' own Lean function (tested against real Go, not proved from fmt's source: count such statements apart). THE CARD IS WHAT COUNTS. Prove the row's statement (the work); the ties are given (YtghmbpogniopoaaDoorTie.lean); close each card by the builder's one call (the guide's Derived/Test/ToyasCard.lean, 'card_holds'). Laid BY PROGRAM, IN A SANDBOX (cutbox-door.mjs). By AI agents, Wed Nov 11 2026. No macro, syntax, notation, axiom, sorry.
-/
import Derived.Test.YtghmbpogniopoaaDoorRows
import GoSem.ClaimSeven
namespace Go.Proofs.YtghmbpogniopoaaDoor
namespace Rows

/-- THE TIED CARD OF 'laws.FnPantsFlags'. -/
def fnPantsFlagsCard : Claim7 := { stood := { row := fnPantsFlagsRow, standIns := [], harness := (true, "fafc4d9f9c167d65aaf53a297299f259ece7e742221cd412426f4260d8d50722"), looks := false }, kinds := [], alts := [], laidByText := true, laidKinds := [.sentinel], laidTests := true, laidLooks := .later }
def FnPantsFlagsCardSaid : Prop := Claim7.holds Tryd.pinned (.plain (OpenSpec.ofChange fnPantsFlagsSpec)) fnPantsFlagsCard

/-- THE TIED CARD OF 'laws.FnPantsQuiet'. -/
def fnPantsQuietCard : Claim7 := { stood := { row := fnPantsQuietRow, standIns := [], harness := (true, "fafc4d9f9c167d65aaf53a297299f259ece7e742221cd412426f4260d8d50722"), looks := false }, kinds := [], alts := [], laidByText := true, laidKinds := [.sentinel], laidTests := true, laidLooks := .later }
def FnPantsQuietCardSaid : Prop := Claim7.holds Tryd.pinned (.plain (OpenSpec.ofChange fnPantsQuietSpec)) fnPantsQuietCard

/-- THE SECOND FORM's CARD OF 'laws.FnPantsFlags'. -/
def fnPantsFlagsUptoCard : Claim7 := { stood := { row := fnPantsFlagsUptoRow, standIns := [], harness := (true, "fafc4d9f9c167d65aaf53a297299f259ece7e742221cd412426f4260d8d50722"), looks := false }, kinds := [], alts := [], laidByText := true, laidKinds := [.sentinel], laidTests := true, laidLooks := .later }
def FnPantsFlagsUptoCardSaid : Prop := Claim7.holds Tryd.pinned (.plain (OpenSpec.upto fnPantsFlagsSpec)) fnPantsFlagsUptoCard

/-- THE SECOND FORM's CARD OF 'laws.FnPantsQuiet'. -/
def fnPantsQuietUptoCard : Claim7 := { stood := { row := fnPantsQuietUptoRow, standIns := [], harness := (true, "fafc4d9f9c167d65aaf53a297299f259ece7e742221cd412426f4260d8d50722"), looks := false }, kinds := [], alts := [], laidByText := true, laidKinds := [.sentinel], laidTests := true, laidLooks := .later }
def FnPantsQuietUptoCardSaid : Prop := Claim7.holds Tryd.pinned (.plain (OpenSpec.upto fnPantsQuietSpec)) fnPantsQuietUptoCard
end Rows
end Go.Proofs.YtghmbpogniopoaaDoor
