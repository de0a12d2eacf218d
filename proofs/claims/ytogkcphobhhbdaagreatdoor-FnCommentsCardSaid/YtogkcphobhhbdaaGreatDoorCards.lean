/-
  DERIVED. GIVEN WITH THE SEED: THE CARDS: each row of YtogkcphobhhbdaaGreatDoorRows.lean that lists a variable, with what it lists TIED to the program's text (the seventh form; the later family's looks); each row that meets fmt, with fmt's text TOLD by the authors' own Lean function (tested against real Go, not proved from fmt's source: count such statements apart). THE CARD IS WHAT COUNTS. Prove the row's statement (the work); the ties are given (YtogkcphobhhbdaaGreatDoorTie.lean); close each card by the builder's one call (the guide's Derived/Test/ToyasCard.lean, 'card_holds'). Laid BY PROGRAM, IN A SANDBOX (cutbox-door.mjs). By AI agents, Wed Nov 11 2026. No macro, syntax, notation, axiom, sorry.
-/
import Derived.Test.YtogkcphobhhbdaaGreatDoorRows
import GoSem.ClaimSeven
namespace Go.Proofs.YtogkcphobhhbdaaGreatDoor
namespace Rows

/-- THE TIED CARD OF 'laws.FnAgain'. -/
def fnAgainCard : Claim7 := { stood := { row := fnAgainRow, standIns := [], harness := (true, "b94db00bd9d4eb4356bcbb632bfe83a4dc88302ef2a1829e7dd48d83d9f74b16"), looks := true }, kinds := [], alts := [], laidByText := true, laidKinds := [.data, .data, .data, .data, .sentinel, .sentinel, .data, .data, .data, .pinned, .pinned, .pinned], laidTests := true, laidLooks := .later }
def FnAgainCardSaid : Prop := Claim7.holds Tryz.pinned (.plain (OpenSpec.ofChange fnAgainSpec)) fnAgainCard

/-- THE TIED CARD OF 'laws.FnBlanks'. -/
def fnBlanksCard : Claim7 := { stood := { row := fnBlanksRow, standIns := [], harness := (true, "b94db00bd9d4eb4356bcbb632bfe83a4dc88302ef2a1829e7dd48d83d9f74b16"), looks := true }, kinds := [], alts := [], laidByText := true, laidKinds := [.data, .data, .data, .data, .sentinel, .sentinel, .data, .data, .data, .pinned, .pinned, .pinned], laidTests := true, laidLooks := .later }
def FnBlanksCardSaid : Prop := Claim7.holds Tryz.pinned (.plain (OpenSpec.ofChange fnBlanksSpec)) fnBlanksCard

/-- THE TIED CARD OF 'laws.FnChar'. -/
def fnCharCard : Claim7 := { stood := { row := fnCharRow, standIns := [], harness := (true, "b94db00bd9d4eb4356bcbb632bfe83a4dc88302ef2a1829e7dd48d83d9f74b16"), looks := true }, kinds := [], alts := [], laidByText := true, laidKinds := [.data, .data, .data, .data, .sentinel, .sentinel, .data, .data, .data, .pinned, .pinned, .pinned], laidTests := true, laidLooks := .later }
def FnCharCardSaid : Prop := Claim7.holds Tryz.pinned (.plain (OpenSpec.ofChange fnCharSpec)) fnCharCard

/-- THE TIED CARD OF 'laws.FnComments'. -/
def fnCommentsCard : Claim7 := { stood := { row := fnCommentsRow, standIns := [], harness := (true, "b94db00bd9d4eb4356bcbb632bfe83a4dc88302ef2a1829e7dd48d83d9f74b16"), looks := true }, kinds := [], alts := [], laidByText := true, laidKinds := [.data, .data, .data, .data, .sentinel, .sentinel, .data, .data, .data, .pinned, .pinned, .pinned], laidTests := true, laidLooks := .later }
def FnCommentsCardSaid : Prop := Claim7.holds Tryz.pinned (.plain (OpenSpec.ofChange fnCommentsSpec)) fnCommentsCard

/-- THE TIED CARD OF 'laws.FnLines'. -/
def fnLinesCard : Claim7 := { stood := { row := fnLinesRow, standIns := [], harness := (true, "b94db00bd9d4eb4356bcbb632bfe83a4dc88302ef2a1829e7dd48d83d9f74b16"), looks := true }, kinds := [], alts := [], laidByText := true, laidKinds := [.data, .data, .data, .data, .sentinel, .sentinel, .data, .data, .data, .pinned, .pinned, .pinned], laidTests := true, laidLooks := .later }
def FnLinesCardSaid : Prop := Claim7.holds Tryz.pinned (.plain (OpenSpec.ofChange fnLinesSpec)) fnLinesCard

/-- THE TIED CARD OF 'laws.FnPositions'. -/
def fnPositionsCard : Claim7 := { stood := { row := fnPositionsRow, standIns := [], harness := (true, "b94db00bd9d4eb4356bcbb632bfe83a4dc88302ef2a1829e7dd48d83d9f74b16"), looks := true }, kinds := [], alts := [], laidByText := true, laidKinds := [.data, .data, .data, .data, .sentinel, .sentinel, .data, .data, .data, .pinned, .pinned, .pinned], laidTests := true, laidLooks := .later }
def FnPositionsCardSaid : Prop := Claim7.holds Tryz.pinned (.plain (OpenSpec.ofChange fnPositionsSpec)) fnPositionsCard

/-- THE TIED CARD OF 'laws.FnScan'. -/
def fnScanCard : Claim7 := { stood := { row := fnScanRow, standIns := [], harness := (true, "b94db00bd9d4eb4356bcbb632bfe83a4dc88302ef2a1829e7dd48d83d9f74b16"), looks := true }, kinds := [], alts := [], laidByText := true, laidKinds := [.data, .data, .data, .data, .sentinel, .sentinel, .data, .data, .data, .pinned, .pinned, .pinned], laidTests := true, laidLooks := .later }
def FnScanCardSaid : Prop := Claim7.holds Tryz.pinned (.plain (OpenSpec.ofChange fnScanSpec)) fnScanCard

/-- THE SECOND FORM's CARD OF 'laws.FnAgain'. -/
def fnAgainUptoCard : Claim7 := { stood := { row := fnAgainUptoRow, standIns := [], harness := (true, "b94db00bd9d4eb4356bcbb632bfe83a4dc88302ef2a1829e7dd48d83d9f74b16"), looks := true }, kinds := [], alts := [], laidByText := true, laidKinds := [.data, .data, .data, .data, .sentinel, .sentinel, .data, .data, .data, .pinned, .pinned, .pinned], laidTests := true, laidLooks := .later }
def FnAgainUptoCardSaid : Prop := Claim7.holds Tryz.pinned (.plain (OpenSpec.upto fnAgainSpec)) fnAgainUptoCard

/-- THE SECOND FORM's CARD OF 'laws.FnBlanks'. -/
def fnBlanksUptoCard : Claim7 := { stood := { row := fnBlanksUptoRow, standIns := [], harness := (true, "b94db00bd9d4eb4356bcbb632bfe83a4dc88302ef2a1829e7dd48d83d9f74b16"), looks := true }, kinds := [], alts := [], laidByText := true, laidKinds := [.data, .data, .data, .data, .sentinel, .sentinel, .data, .data, .data, .pinned, .pinned, .pinned], laidTests := true, laidLooks := .later }
def FnBlanksUptoCardSaid : Prop := Claim7.holds Tryz.pinned (.plain (OpenSpec.upto fnBlanksSpec)) fnBlanksUptoCard

/-- THE SECOND FORM's CARD OF 'laws.FnChar'. -/
def fnCharUptoCard : Claim7 := { stood := { row := fnCharUptoRow, standIns := [], harness := (true, "b94db00bd9d4eb4356bcbb632bfe83a4dc88302ef2a1829e7dd48d83d9f74b16"), looks := true }, kinds := [], alts := [], laidByText := true, laidKinds := [.data, .data, .data, .data, .sentinel, .sentinel, .data, .data, .data, .pinned, .pinned, .pinned], laidTests := true, laidLooks := .later }
def FnCharUptoCardSaid : Prop := Claim7.holds Tryz.pinned (.plain (OpenSpec.upto fnCharSpec)) fnCharUptoCard

/-- THE SECOND FORM's CARD OF 'laws.FnComments'. -/
def fnCommentsUptoCard : Claim7 := { stood := { row := fnCommentsUptoRow, standIns := [], harness := (true, "b94db00bd9d4eb4356bcbb632bfe83a4dc88302ef2a1829e7dd48d83d9f74b16"), looks := true }, kinds := [], alts := [], laidByText := true, laidKinds := [.data, .data, .data, .data, .sentinel, .sentinel, .data, .data, .data, .pinned, .pinned, .pinned], laidTests := true, laidLooks := .later }
def FnCommentsUptoCardSaid : Prop := Claim7.holds Tryz.pinned (.plain (OpenSpec.upto fnCommentsSpec)) fnCommentsUptoCard

/-- THE SECOND FORM's CARD OF 'laws.FnLines'. -/
def fnLinesUptoCard : Claim7 := { stood := { row := fnLinesUptoRow, standIns := [], harness := (true, "b94db00bd9d4eb4356bcbb632bfe83a4dc88302ef2a1829e7dd48d83d9f74b16"), looks := true }, kinds := [], alts := [], laidByText := true, laidKinds := [.data, .data, .data, .data, .sentinel, .sentinel, .data, .data, .data, .pinned, .pinned, .pinned], laidTests := true, laidLooks := .later }
def FnLinesUptoCardSaid : Prop := Claim7.holds Tryz.pinned (.plain (OpenSpec.upto fnLinesSpec)) fnLinesUptoCard

/-- THE SECOND FORM's CARD OF 'laws.FnPositions'. -/
def fnPositionsUptoCard : Claim7 := { stood := { row := fnPositionsUptoRow, standIns := [], harness := (true, "b94db00bd9d4eb4356bcbb632bfe83a4dc88302ef2a1829e7dd48d83d9f74b16"), looks := true }, kinds := [], alts := [], laidByText := true, laidKinds := [.data, .data, .data, .data, .sentinel, .sentinel, .data, .data, .data, .pinned, .pinned, .pinned], laidTests := true, laidLooks := .later }
def FnPositionsUptoCardSaid : Prop := Claim7.holds Tryz.pinned (.plain (OpenSpec.upto fnPositionsSpec)) fnPositionsUptoCard

/-- THE SECOND FORM's CARD OF 'laws.FnScan'. -/
def fnScanUptoCard : Claim7 := { stood := { row := fnScanUptoRow, standIns := [], harness := (true, "b94db00bd9d4eb4356bcbb632bfe83a4dc88302ef2a1829e7dd48d83d9f74b16"), looks := true }, kinds := [], alts := [], laidByText := true, laidKinds := [.data, .data, .data, .data, .sentinel, .sentinel, .data, .data, .data, .pinned, .pinned, .pinned], laidTests := true, laidLooks := .later }
def FnScanUptoCardSaid : Prop := Claim7.holds Tryz.pinned (.plain (OpenSpec.upto fnScanSpec)) fnScanUptoCard
end Rows
end Go.Proofs.YtogkcphobhhbdaaGreatDoor
