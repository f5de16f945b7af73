/-
  DERIVED. GIVEN WITH THE SEED: THE CARDS: each row of YtcelfpgkknfnhaaGreatDoorRows.lean that lists a variable, with what it lists TIED to the program's text (the seventh form; the later family's looks); each row that meets fmt, with fmt's text TOLD by the authors' own Lean function (tested against real Go, not proved from fmt's source: count such statements apart). THE CARD IS WHAT COUNTS. Prove the row's statement (the work); the ties are given (YtcelfpgkknfnhaaGreatDoorTie.lean); close each card by the builder's one call (the guide's Derived/Test/ToyasCard.lean, 'card_holds'). Laid BY PROGRAM, IN A SANDBOX (cutbox-door.mjs). By AI agents, Wed Nov 11 2026. No macro, syntax, notation, axiom, sorry.
-/
import Derived.Test.YtcelfpgkknfnhaaGreatDoorRows
import GoSem.ClaimSeven
namespace Go.Proofs.YtcelfpgkknfnhaaGreatDoor
namespace Rows

/-- THE TIED CARD OF 'laws.FnLineCode'. -/
def fnLineCodeCard : Claim7 := { stood := { row := fnLineCodeRow, standIns := [], harness := (true, "322648f45aa6df130980e1c862317f3b39b5593b9b018bddc2f9950a4379db51"), looks := false }, kinds := [], alts := [], laidByText := true, laidKinds := [.data, .data, .data, .sentinel], laidTests := true, laidLooks := .later }
def FnLineCodeCardSaid : Prop := Claim7.holds Tryz.pinned (.plain (OpenSpec.ofChange fnLineCodeSpec)) fnLineCodeCard

/-- THE TIED CARD OF 'laws.FnLineNumber'. -/
def fnLineNumberCard : Claim7 := { stood := { row := fnLineNumberRow, standIns := [], harness := (true, "322648f45aa6df130980e1c862317f3b39b5593b9b018bddc2f9950a4379db51"), looks := false }, kinds := [], alts := [], laidByText := true, laidKinds := [.data, .data, .data, .sentinel], laidTests := true, laidLooks := .later }
def FnLineNumberCardSaid : Prop := Claim7.holds Tryz.pinned (.plain (OpenSpec.ofChange fnLineNumberSpec)) fnLineNumberCard

/-- THE TIED CARD OF 'laws.FnLineOne'. -/
def fnLineOneCard : Claim7 := { stood := { row := fnLineOneRow, standIns := [], harness := (true, "322648f45aa6df130980e1c862317f3b39b5593b9b018bddc2f9950a4379db51"), looks := false }, kinds := [], alts := [], laidByText := true, laidKinds := [.data, .data, .data, .sentinel], laidTests := true, laidLooks := .later }
def FnLineOneCardSaid : Prop := Claim7.holds Tryz.pinned (.plain (OpenSpec.ofChange fnLineOneSpec)) fnLineOneCard

/-- THE TIED CARD OF 'laws.FnLineRule'. -/
def fnLineRuleCard : Claim7 := { stood := { row := fnLineRuleRow, standIns := [], harness := (true, "322648f45aa6df130980e1c862317f3b39b5593b9b018bddc2f9950a4379db51"), looks := false }, kinds := [], alts := [], laidByText := true, laidKinds := [.data, .data, .data, .sentinel], laidTests := true, laidLooks := .later }
def FnLineRuleCardSaid : Prop := Claim7.holds Tryz.pinned (.plain (OpenSpec.ofChange fnLineRuleSpec)) fnLineRuleCard

/-- THE TIED CARD OF 'laws.FnLineUnderline'. -/
def fnLineUnderlineCard : Claim7 := { stood := { row := fnLineUnderlineRow, standIns := [], harness := (true, "322648f45aa6df130980e1c862317f3b39b5593b9b018bddc2f9950a4379db51"), looks := false }, kinds := [], alts := [], laidByText := true, laidKinds := [.data, .data, .data, .sentinel], laidTests := true, laidLooks := .later }
def FnLineUnderlineCardSaid : Prop := Claim7.holds Tryz.pinned (.plain (OpenSpec.ofChange fnLineUnderlineSpec)) fnLineUnderlineCard

/-- THE SECOND FORM's CARD OF 'laws.FnLineCode'. -/
def fnLineCodeUptoCard : Claim7 := { stood := { row := fnLineCodeUptoRow, standIns := [], harness := (true, "322648f45aa6df130980e1c862317f3b39b5593b9b018bddc2f9950a4379db51"), looks := false }, kinds := [], alts := [], laidByText := true, laidKinds := [.data, .data, .data, .sentinel], laidTests := true, laidLooks := .later }
def FnLineCodeUptoCardSaid : Prop := Claim7.holds Tryz.pinned (.plain (OpenSpec.upto fnLineCodeSpec)) fnLineCodeUptoCard

/-- THE SECOND FORM's CARD OF 'laws.FnLineNumber'. -/
def fnLineNumberUptoCard : Claim7 := { stood := { row := fnLineNumberUptoRow, standIns := [], harness := (true, "322648f45aa6df130980e1c862317f3b39b5593b9b018bddc2f9950a4379db51"), looks := false }, kinds := [], alts := [], laidByText := true, laidKinds := [.data, .data, .data, .sentinel], laidTests := true, laidLooks := .later }
def FnLineNumberUptoCardSaid : Prop := Claim7.holds Tryz.pinned (.plain (OpenSpec.upto fnLineNumberSpec)) fnLineNumberUptoCard

/-- THE SECOND FORM's CARD OF 'laws.FnLineOne'. -/
def fnLineOneUptoCard : Claim7 := { stood := { row := fnLineOneUptoRow, standIns := [], harness := (true, "322648f45aa6df130980e1c862317f3b39b5593b9b018bddc2f9950a4379db51"), looks := false }, kinds := [], alts := [], laidByText := true, laidKinds := [.data, .data, .data, .sentinel], laidTests := true, laidLooks := .later }
def FnLineOneUptoCardSaid : Prop := Claim7.holds Tryz.pinned (.plain (OpenSpec.upto fnLineOneSpec)) fnLineOneUptoCard

/-- THE SECOND FORM's CARD OF 'laws.FnLineRule'. -/
def fnLineRuleUptoCard : Claim7 := { stood := { row := fnLineRuleUptoRow, standIns := [], harness := (true, "322648f45aa6df130980e1c862317f3b39b5593b9b018bddc2f9950a4379db51"), looks := false }, kinds := [], alts := [], laidByText := true, laidKinds := [.data, .data, .data, .sentinel], laidTests := true, laidLooks := .later }
def FnLineRuleUptoCardSaid : Prop := Claim7.holds Tryz.pinned (.plain (OpenSpec.upto fnLineRuleSpec)) fnLineRuleUptoCard

/-- THE SECOND FORM's CARD OF 'laws.FnLineUnderline'. -/
def fnLineUnderlineUptoCard : Claim7 := { stood := { row := fnLineUnderlineUptoRow, standIns := [], harness := (true, "322648f45aa6df130980e1c862317f3b39b5593b9b018bddc2f9950a4379db51"), looks := false }, kinds := [], alts := [], laidByText := true, laidKinds := [.data, .data, .data, .sentinel], laidTests := true, laidLooks := .later }
def FnLineUnderlineUptoCardSaid : Prop := Claim7.holds Tryz.pinned (.plain (OpenSpec.upto fnLineUnderlineSpec)) fnLineUnderlineUptoCard
end Rows
end Go.Proofs.YtcelfpgkknfnhaaGreatDoor
