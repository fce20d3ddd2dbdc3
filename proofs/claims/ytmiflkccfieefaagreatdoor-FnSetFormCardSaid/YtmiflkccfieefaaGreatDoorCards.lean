/-
  DERIVED. GIVEN WITH THE SEED: THE CARDS: each row of YtmiflkccfieefaaGreatDoorRows.lean that lists a variable, with what it lists TIED to the program's text (the seventh form; the later family's looks); each row that meets fmt, with fmt's text TOLD by the authors' own Lean function (tested against real Go, not proved from fmt's source: count such statements apart). THE CARD IS WHAT COUNTS. Prove the row's statement (the work); the ties are given (YtmiflkccfieefaaGreatDoorTie.lean); close each card by the builder's one call (the guide's Derived/Test/ToyasCard.lean, 'card_holds'). Laid BY PROGRAM, IN A SANDBOX (cutbox-door.mjs). By AI agents, Wed Nov 11 2026. No macro, syntax, notation, axiom, sorry.
-/
import Derived.Test.YtmiflkccfieefaaGreatDoorRows
import GoSem.ClaimSeven
namespace Go.Proofs.YtmiflkccfieefaaGreatDoor
namespace Rows

/-- THE TIED CARD OF 'laws.FnRecordForm'. -/
def fnRecordFormCard : Claim7 := { stood := { row := fnRecordFormRow, standIns := [], harness := (true, "576496b8967643ec15a3de1da37131e7030462a4b78f1afc68b6580dbc98e485"), looks := true }, kinds := [], alts := [], laidByText := true, laidKinds := [.sentinel], laidTests := true, laidLooks := .later }
def FnRecordFormCardSaid : Prop := Claim7.holds Tryz.pinned (.plain (OpenSpec.ofChange fnRecordFormSpec)) fnRecordFormCard

/-- THE TIED CARD OF 'laws.FnBatchLast'. -/
def fnBatchLastCard : Claim7 := { stood := { row := fnBatchLastRow, standIns := [], harness := (true, "576496b8967643ec15a3de1da37131e7030462a4b78f1afc68b6580dbc98e485"), looks := true }, kinds := [], alts := [], laidByText := true, laidKinds := [.sentinel], laidTests := true, laidLooks := .later }
def FnBatchLastCardSaid : Prop := Claim7.holds Tryz.pinned (.plain (OpenSpec.ofChange fnBatchLastSpec)) fnBatchLastCard

/-- THE TIED CARD OF 'laws.FnMessageForm'. -/
def fnMessageFormCard : Claim7 := { stood := { row := fnMessageFormRow, standIns := [], harness := (true, "576496b8967643ec15a3de1da37131e7030462a4b78f1afc68b6580dbc98e485"), looks := true }, kinds := [], alts := [], laidByText := true, laidKinds := [.sentinel], laidTests := true, laidLooks := .later }
def FnMessageFormCardSaid : Prop := Claim7.holds Tryz.pinned (.plain (OpenSpec.ofChange fnMessageFormSpec)) fnMessageFormCard

/-- THE TIED CARD OF 'laws.FnBatchCut'. -/
def fnBatchCutCard : Claim7 := { stood := { row := fnBatchCutRow, standIns := [], harness := (true, "576496b8967643ec15a3de1da37131e7030462a4b78f1afc68b6580dbc98e485"), looks := true }, kinds := [], alts := [], laidByText := true, laidKinds := [.sentinel], laidTests := true, laidLooks := .later }
def FnBatchCutCardSaid : Prop := Claim7.holds Tryz.pinned (.plain (OpenSpec.ofChange fnBatchCutSpec)) fnBatchCutCard

/-- THE TIED CARD OF 'laws.FnBatchSpoilt'. -/
def fnBatchSpoiltCard : Claim7 := { stood := { row := fnBatchSpoiltRow, standIns := [], harness := (true, "576496b8967643ec15a3de1da37131e7030462a4b78f1afc68b6580dbc98e485"), looks := true }, kinds := [], alts := [], laidByText := true, laidKinds := [.sentinel], laidTests := true, laidLooks := .later }
def FnBatchSpoiltCardSaid : Prop := Claim7.holds Tryz.pinned (.plain (OpenSpec.ofChange fnBatchSpoiltSpec)) fnBatchSpoiltCard

/-- THE TIED CARD OF 'laws.FnSetCut'. -/
def fnSetCutCard : Claim7 := { stood := { row := fnSetCutRow, standIns := [], harness := (true, "576496b8967643ec15a3de1da37131e7030462a4b78f1afc68b6580dbc98e485"), looks := true }, kinds := [], alts := [], laidByText := true, laidKinds := [.sentinel], laidTests := true, laidLooks := .later }
def FnSetCutCardSaid : Prop := Claim7.holds Tryz.pinned (.plain (OpenSpec.ofChange fnSetCutSpec)) fnSetCutCard

/-- THE TIED CARD OF 'laws.FnControl'. -/
def fnControlCard : Claim7 := { stood := { row := fnControlRow, standIns := [], harness := (true, "576496b8967643ec15a3de1da37131e7030462a4b78f1afc68b6580dbc98e485"), looks := true }, kinds := [], alts := [], laidByText := true, laidKinds := [.sentinel], laidTests := true, laidLooks := .later }
def FnControlCardSaid : Prop := Claim7.holds Tryz.pinned (.plain (OpenSpec.ofChange fnControlSpec)) fnControlCard

/-- THE TIED CARD OF 'laws.FnBatchForm'. -/
def fnBatchFormCard : Claim7 := { stood := { row := fnBatchFormRow, standIns := [], harness := (true, "576496b8967643ec15a3de1da37131e7030462a4b78f1afc68b6580dbc98e485"), looks := true }, kinds := [], alts := [], laidByText := true, laidKinds := [.sentinel], laidTests := true, laidLooks := .later }
def FnBatchFormCardSaid : Prop := Claim7.holds Tryz.pinned (.plain (OpenSpec.ofChange fnBatchFormSpec)) fnBatchFormCard

/-- THE TIED CARD OF 'laws.FnSetForm'. -/
def fnSetFormCard : Claim7 := { stood := { row := fnSetFormRow, standIns := [], harness := (true, "576496b8967643ec15a3de1da37131e7030462a4b78f1afc68b6580dbc98e485"), looks := true }, kinds := [], alts := [], laidByText := true, laidKinds := [.sentinel], laidTests := true, laidLooks := .later }
def FnSetFormCardSaid : Prop := Claim7.holds Tryz.pinned (.plain (OpenSpec.ofChange fnSetFormSpec)) fnSetFormCard

/-- THE TIED CARD OF 'laws.FnVersions'. -/
def fnVersionsCard : Claim7 := { stood := { row := fnVersionsRow, standIns := [], harness := (true, "576496b8967643ec15a3de1da37131e7030462a4b78f1afc68b6580dbc98e485"), looks := true }, kinds := [], alts := [], laidByText := true, laidKinds := [.data, .data, .data, .sentinel], laidTests := true, laidLooks := .later }
def FnVersionsCardSaid : Prop := Claim7.holds Tryz.pinned (.plain (OpenSpec.ofChange fnVersionsSpec)) fnVersionsCard

/-- THE SECOND FORM's CARD OF 'laws.FnRecordForm'. -/
def fnRecordFormUptoCard : Claim7 := { stood := { row := fnRecordFormUptoRow, standIns := [], harness := (true, "576496b8967643ec15a3de1da37131e7030462a4b78f1afc68b6580dbc98e485"), looks := true }, kinds := [], alts := [], laidByText := true, laidKinds := [.sentinel], laidTests := true, laidLooks := .later }
def FnRecordFormUptoCardSaid : Prop := Claim7.holds Tryz.pinned (.plain (OpenSpec.upto fnRecordFormSpec)) fnRecordFormUptoCard

/-- THE SECOND FORM's CARD OF 'laws.FnBatchLast'. -/
def fnBatchLastUptoCard : Claim7 := { stood := { row := fnBatchLastUptoRow, standIns := [], harness := (true, "576496b8967643ec15a3de1da37131e7030462a4b78f1afc68b6580dbc98e485"), looks := true }, kinds := [], alts := [], laidByText := true, laidKinds := [.sentinel], laidTests := true, laidLooks := .later }
def FnBatchLastUptoCardSaid : Prop := Claim7.holds Tryz.pinned (.plain (OpenSpec.upto fnBatchLastSpec)) fnBatchLastUptoCard

/-- THE SECOND FORM's CARD OF 'laws.FnMessageForm'. -/
def fnMessageFormUptoCard : Claim7 := { stood := { row := fnMessageFormUptoRow, standIns := [], harness := (true, "576496b8967643ec15a3de1da37131e7030462a4b78f1afc68b6580dbc98e485"), looks := true }, kinds := [], alts := [], laidByText := true, laidKinds := [.sentinel], laidTests := true, laidLooks := .later }
def FnMessageFormUptoCardSaid : Prop := Claim7.holds Tryz.pinned (.plain (OpenSpec.upto fnMessageFormSpec)) fnMessageFormUptoCard

/-- THE SECOND FORM's CARD OF 'laws.FnBatchCut'. -/
def fnBatchCutUptoCard : Claim7 := { stood := { row := fnBatchCutUptoRow, standIns := [], harness := (true, "576496b8967643ec15a3de1da37131e7030462a4b78f1afc68b6580dbc98e485"), looks := true }, kinds := [], alts := [], laidByText := true, laidKinds := [.sentinel], laidTests := true, laidLooks := .later }
def FnBatchCutUptoCardSaid : Prop := Claim7.holds Tryz.pinned (.plain (OpenSpec.upto fnBatchCutSpec)) fnBatchCutUptoCard

/-- THE SECOND FORM's CARD OF 'laws.FnBatchSpoilt'. -/
def fnBatchSpoiltUptoCard : Claim7 := { stood := { row := fnBatchSpoiltUptoRow, standIns := [], harness := (true, "576496b8967643ec15a3de1da37131e7030462a4b78f1afc68b6580dbc98e485"), looks := true }, kinds := [], alts := [], laidByText := true, laidKinds := [.sentinel], laidTests := true, laidLooks := .later }
def FnBatchSpoiltUptoCardSaid : Prop := Claim7.holds Tryz.pinned (.plain (OpenSpec.upto fnBatchSpoiltSpec)) fnBatchSpoiltUptoCard

/-- THE SECOND FORM's CARD OF 'laws.FnSetCut'. -/
def fnSetCutUptoCard : Claim7 := { stood := { row := fnSetCutUptoRow, standIns := [], harness := (true, "576496b8967643ec15a3de1da37131e7030462a4b78f1afc68b6580dbc98e485"), looks := true }, kinds := [], alts := [], laidByText := true, laidKinds := [.sentinel], laidTests := true, laidLooks := .later }
def FnSetCutUptoCardSaid : Prop := Claim7.holds Tryz.pinned (.plain (OpenSpec.upto fnSetCutSpec)) fnSetCutUptoCard

/-- THE SECOND FORM's CARD OF 'laws.FnControl'. -/
def fnControlUptoCard : Claim7 := { stood := { row := fnControlUptoRow, standIns := [], harness := (true, "576496b8967643ec15a3de1da37131e7030462a4b78f1afc68b6580dbc98e485"), looks := true }, kinds := [], alts := [], laidByText := true, laidKinds := [.sentinel], laidTests := true, laidLooks := .later }
def FnControlUptoCardSaid : Prop := Claim7.holds Tryz.pinned (.plain (OpenSpec.upto fnControlSpec)) fnControlUptoCard

/-- THE SECOND FORM's CARD OF 'laws.FnBatchForm'. -/
def fnBatchFormUptoCard : Claim7 := { stood := { row := fnBatchFormUptoRow, standIns := [], harness := (true, "576496b8967643ec15a3de1da37131e7030462a4b78f1afc68b6580dbc98e485"), looks := true }, kinds := [], alts := [], laidByText := true, laidKinds := [.sentinel], laidTests := true, laidLooks := .later }
def FnBatchFormUptoCardSaid : Prop := Claim7.holds Tryz.pinned (.plain (OpenSpec.upto fnBatchFormSpec)) fnBatchFormUptoCard

/-- THE SECOND FORM's CARD OF 'laws.FnSetForm'. -/
def fnSetFormUptoCard : Claim7 := { stood := { row := fnSetFormUptoRow, standIns := [], harness := (true, "576496b8967643ec15a3de1da37131e7030462a4b78f1afc68b6580dbc98e485"), looks := true }, kinds := [], alts := [], laidByText := true, laidKinds := [.sentinel], laidTests := true, laidLooks := .later }
def FnSetFormUptoCardSaid : Prop := Claim7.holds Tryz.pinned (.plain (OpenSpec.upto fnSetFormSpec)) fnSetFormUptoCard

/-- THE SECOND FORM's CARD OF 'laws.FnVersions'. -/
def fnVersionsUptoCard : Claim7 := { stood := { row := fnVersionsUptoRow, standIns := [], harness := (true, "576496b8967643ec15a3de1da37131e7030462a4b78f1afc68b6580dbc98e485"), looks := true }, kinds := [], alts := [], laidByText := true, laidKinds := [.data, .data, .data, .sentinel], laidTests := true, laidLooks := .later }
def FnVersionsUptoCardSaid : Prop := Claim7.holds Tryz.pinned (.plain (OpenSpec.upto fnVersionsSpec)) fnVersionsUptoCard
end Rows
end Go.Proofs.YtmiflkccfieefaaGreatDoor
