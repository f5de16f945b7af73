/-
  DERIVED. GIVEN WITH THE SEED: THE CARDS: each row of YtfhpjcgflejgnaaDoorRows.lean that lists a variable, with what it lists TIED to the program's text (the seventh form; the later family's looks); each row that meets fmt, with fmt's text TOLD by the authors' own Lean function (tested against real Go, not proved from fmt's source: count such statements apart). THE CARD IS WHAT COUNTS. Prove the row's statement (the work); the ties are given (YtfhpjcgflejgnaaDoorTie.lean); close each card by the builder's one call (the guide's Derived/Test/ToyasCard.lean, 'card_holds'). Laid BY PROGRAM, IN A SANDBOX (cutbox-door.mjs). By AI agents, Wed Nov 11 2026. No macro, syntax, notation, axiom, sorry.
-/
import Derived.Test.YtfhpjcgflejgnaaDoorRows
import GoSem.ClaimSeven
namespace Go.Proofs.YtfhpjcgflejgnaaDoor
namespace Rows

/-- THE TIED CARD OF 'laws.FnUniqueIDs'. -/
def fnUniqueIDsCard : Claim7 := { stood := { row := fnUniqueIDsRow, standIns := [], harness := (true, "0040bd722942923c4dc5cae3aea9e9fce847c6cdf3d2a0619cb1829f9dbfa7f5"), looks := false }, kinds := [], alts := [], laidByText := true, laidKinds := [.data, .data, .data, .sentinel], laidTests := true, laidLooks := .later }
def FnUniqueIDsCardSaid : Prop := Claim7.holds Tryd.pinned (.plain (OpenSpec.ofChange fnUniqueIDsSpec)) fnUniqueIDsCard

/-- THE SECOND FORM's CARD OF 'laws.FnUniqueIDs'. -/
def fnUniqueIDsUptoCard : Claim7 := { stood := { row := fnUniqueIDsUptoRow, standIns := [], harness := (true, "0040bd722942923c4dc5cae3aea9e9fce847c6cdf3d2a0619cb1829f9dbfa7f5"), looks := false }, kinds := [], alts := [], laidByText := true, laidKinds := [.data, .data, .data, .sentinel], laidTests := true, laidLooks := .later }
def FnUniqueIDsUptoCardSaid : Prop := Claim7.holds Tryd.pinned (.plain (OpenSpec.upto fnUniqueIDsSpec)) fnUniqueIDsUptoCard
end Rows
end Go.Proofs.YtfhpjcgflejgnaaDoor
