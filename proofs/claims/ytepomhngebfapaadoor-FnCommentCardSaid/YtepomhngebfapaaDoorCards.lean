/-
  DERIVED. GIVEN WITH THE SEED: THE CARDS: each row of YtepomhngebfapaaDoorRows.lean that lists a variable, with what it lists TIED to the program's text (the seventh form; the later family's looks); each row that meets fmt, with fmt's text TOLD by the authors' own Lean function (tested against real Go, not proved from fmt's source: count such statements apart). THE CARD IS WHAT COUNTS. Prove the row's statement (the work); the ties are given (YtepomhngebfapaaDoorTie.lean); close each card by the builder's one call (the guide's Derived/Test/ToyasCard.lean, 'card_holds'). Laid BY PROGRAM, IN A SANDBOX (cutbox-door.mjs). By AI agents, Wed Nov 11 2026. No macro, syntax, notation, axiom, sorry.
-/
import Derived.Test.YtepomhngebfapaaDoorRows
import GoSem.ClaimSeven
namespace Go.Proofs.YtepomhngebfapaaDoor
namespace Rows

/-- THE TIED CARD OF 'laws.FnComment'. -/
def fnCommentCard : Claim7 := { stood := { row := fnCommentRow, standIns := [], harness := (true, "6c2ec669cedaa0c74c40d4e88a95c527a905004fbf1f80ef3f35004667cbb5a8"), looks := false }, kinds := [], alts := [], laidByText := true, laidKinds := [.data, .data, .data, .sentinel], laidTests := true, laidLooks := .later }
def FnCommentCardSaid : Prop := Claim7.holds Tryd.pinned (.plain (OpenSpec.ofChange fnCommentSpec)) fnCommentCard

/-- THE SECOND FORM's CARD OF 'laws.FnComment'. -/
def fnCommentUptoCard : Claim7 := { stood := { row := fnCommentUptoRow, standIns := [], harness := (true, "6c2ec669cedaa0c74c40d4e88a95c527a905004fbf1f80ef3f35004667cbb5a8"), looks := false }, kinds := [], alts := [], laidByText := true, laidKinds := [.data, .data, .data, .sentinel], laidTests := true, laidLooks := .later }
def FnCommentUptoCardSaid : Prop := Claim7.holds Tryd.pinned (.plain (OpenSpec.upto fnCommentSpec)) fnCommentUptoCard
end Rows
end Go.Proofs.YtepomhngebfapaaDoor
