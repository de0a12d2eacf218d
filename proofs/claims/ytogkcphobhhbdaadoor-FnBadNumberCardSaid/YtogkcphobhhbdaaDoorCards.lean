/-
  DERIVED. GIVEN WITH THE SEED: THE CARDS: each row of YtogkcphobhhbdaaDoorRows.lean that lists a variable, with what it lists TIED to the program's text (the seventh form; the later family's looks); each row that meets fmt, with fmt's text TOLD by the authors' own Lean function (tested against real Go, not proved from fmt's source: count such statements apart). THE CARD IS WHAT COUNTS. Prove the row's statement (the work); the ties are given (YtogkcphobhhbdaaDoorTie.lean); close each card by the builder's one call (the guide's Derived/Test/ToyasCard.lean, 'card_holds'). Laid BY PROGRAM, IN A SANDBOX (cutbox-door.mjs). By AI agents, Wed Nov 11 2026. No macro, syntax, notation, axiom, sorry.
-/
import Derived.Test.YtogkcphobhhbdaaDoorRows
import GoSem.ClaimSeven
namespace Go.Proofs.YtogkcphobhhbdaaDoor
namespace Rows

/-- THE TIED CARD OF 'laws.FnEnds'. -/
def fnEndsCard : Claim7 := { stood := { row := fnEndsRow, standIns := [], harness := (true, "ae2fc34026476cd7c4e600893da3010dcf8f35e1f97b8c75eb9a5015bf6d3a64"), looks := true }, kinds := [], alts := [], laidByText := true, laidKinds := [.data, .data, .data, .data, .sentinel, .sentinel, .data, .data, .data, .pinned, .pinned, .pinned], laidTests := true, laidLooks := .later }
def FnEndsCardSaid : Prop := Claim7.holds Tryd.pinned (.plain (OpenSpec.ofChange fnEndsSpec)) fnEndsCard

/-- THE TIED CARD OF 'laws.FnModes'. -/
def fnModesCard : Claim7 := { stood := { row := fnModesRow, standIns := [], harness := (true, "ae2fc34026476cd7c4e600893da3010dcf8f35e1f97b8c75eb9a5015bf6d3a64"), looks := true }, kinds := [], alts := [], laidByText := true, laidKinds := [.data, .data, .data, .data, .sentinel, .sentinel, .data, .data, .data, .pinned, .pinned, .pinned], laidTests := true, laidLooks := .later }
def FnModesCardSaid : Prop := Claim7.holds Tryd.pinned (.plain (OpenSpec.ofChange fnModesSpec)) fnModesCard

/-- THE TIED CARD OF 'laws.FnEscape'. -/
def fnEscapeCard : Claim7 := { stood := { row := fnEscapeRow, standIns := [], harness := (true, "ae2fc34026476cd7c4e600893da3010dcf8f35e1f97b8c75eb9a5015bf6d3a64"), looks := true }, kinds := [], alts := [], laidByText := true, laidKinds := [.data, .data, .data, .data, .sentinel, .sentinel, .data, .data, .data, .pinned, .pinned, .pinned], laidTests := true, laidLooks := .later }
def FnEscapeCardSaid : Prop := Claim7.holds Tryd.pinned (.plain (OpenSpec.ofChange fnEscapeSpec)) fnEscapeCard

/-- THE TIED CARD OF 'laws.FnGlued'. -/
def fnGluedCard : Claim7 := { stood := { row := fnGluedRow, standIns := [], harness := (true, "ae2fc34026476cd7c4e600893da3010dcf8f35e1f97b8c75eb9a5015bf6d3a64"), looks := true }, kinds := [], alts := [], laidByText := true, laidKinds := [.data, .data, .data, .data, .sentinel, .sentinel, .data, .data, .data, .pinned, .pinned, .pinned], laidTests := true, laidLooks := .later }
def FnGluedCardSaid : Prop := Claim7.holds Tryd.pinned (.plain (OpenSpec.ofChange fnGluedSpec)) fnGluedCard

/-- THE TIED CARD OF 'laws.FnName'. -/
def fnNameCard : Claim7 := { stood := { row := fnNameRow, standIns := [], harness := (true, "ae2fc34026476cd7c4e600893da3010dcf8f35e1f97b8c75eb9a5015bf6d3a64"), looks := true }, kinds := [], alts := [], laidByText := true, laidKinds := [.data, .data, .data, .data, .sentinel, .sentinel, .data, .data, .data, .pinned, .pinned, .pinned], laidTests := true, laidLooks := .later }
def FnNameCardSaid : Prop := Claim7.holds Tryd.pinned (.plain (OpenSpec.ofChange fnNameSpec)) fnNameCard

/-- THE TIED CARD OF 'laws.FnRaw'. -/
def fnRawCard : Claim7 := { stood := { row := fnRawRow, standIns := [], harness := (true, "ae2fc34026476cd7c4e600893da3010dcf8f35e1f97b8c75eb9a5015bf6d3a64"), looks := true }, kinds := [], alts := [], laidByText := true, laidKinds := [.data, .data, .data, .data, .sentinel, .sentinel, .data, .data, .data, .pinned, .pinned, .pinned], laidTests := true, laidLooks := .later }
def FnRawCardSaid : Prop := Claim7.holds Tryd.pinned (.plain (OpenSpec.ofChange fnRawSpec)) fnRawCard

/-- THE TIED CARD OF 'laws.FnRune'. -/
def fnRuneCard : Claim7 := { stood := { row := fnRuneRow, standIns := [], harness := (true, "ae2fc34026476cd7c4e600893da3010dcf8f35e1f97b8c75eb9a5015bf6d3a64"), looks := true }, kinds := [], alts := [], laidByText := true, laidKinds := [.data, .data, .data, .data, .sentinel, .sentinel, .data, .data, .data, .pinned, .pinned, .pinned], laidTests := true, laidLooks := .later }
def FnRuneCardSaid : Prop := Claim7.holds Tryd.pinned (.plain (OpenSpec.ofChange fnRuneSpec)) fnRuneCard

/-- THE TIED CARD OF 'laws.FnString'. -/
def fnStringCard : Claim7 := { stood := { row := fnStringRow, standIns := [], harness := (true, "ae2fc34026476cd7c4e600893da3010dcf8f35e1f97b8c75eb9a5015bf6d3a64"), looks := true }, kinds := [], alts := [], laidByText := true, laidKinds := [.data, .data, .data, .data, .sentinel, .sentinel, .data, .data, .data, .pinned, .pinned, .pinned], laidTests := true, laidLooks := .later }
def FnStringCardSaid : Prop := Claim7.holds Tryd.pinned (.plain (OpenSpec.ofChange fnStringSpec)) fnStringCard

/-- THE TIED CARD OF 'laws.FnImaginary'. -/
def fnImaginaryCard : Claim7 := { stood := { row := fnImaginaryRow, standIns := [], harness := (true, "ae2fc34026476cd7c4e600893da3010dcf8f35e1f97b8c75eb9a5015bf6d3a64"), looks := true }, kinds := [], alts := [], laidByText := true, laidKinds := [.data, .data, .data, .data, .sentinel, .sentinel, .data, .data, .data, .pinned, .pinned, .pinned], laidTests := true, laidLooks := .later }
def FnImaginaryCardSaid : Prop := Claim7.holds Tryd.pinned (.plain (OpenSpec.ofChange fnImaginarySpec)) fnImaginaryCard

/-- THE TIED CARD OF 'laws.FnNumber'. -/
def fnNumberCard : Claim7 := { stood := { row := fnNumberRow, standIns := [], harness := (true, "ae2fc34026476cd7c4e600893da3010dcf8f35e1f97b8c75eb9a5015bf6d3a64"), looks := true }, kinds := [], alts := [], laidByText := true, laidKinds := [.data, .data, .data, .data, .sentinel, .sentinel, .data, .data, .data, .pinned, .pinned, .pinned], laidTests := true, laidLooks := .later }
def FnNumberCardSaid : Prop := Claim7.holds Tryd.pinned (.plain (OpenSpec.ofChange fnNumberSpec)) fnNumberCard

/-- THE TIED CARD OF 'laws.FnUnclosed'. -/
def fnUnclosedCard : Claim7 := { stood := { row := fnUnclosedRow, standIns := [], harness := (true, "ae2fc34026476cd7c4e600893da3010dcf8f35e1f97b8c75eb9a5015bf6d3a64"), looks := true }, kinds := [], alts := [], laidByText := true, laidKinds := [.data, .data, .data, .data, .sentinel, .sentinel, .data, .data, .data, .pinned, .pinned, .pinned], laidTests := true, laidLooks := .later }
def FnUnclosedCardSaid : Prop := Claim7.holds Tryd.pinned (.plain (OpenSpec.ofChange fnUnclosedSpec)) fnUnclosedCard

/-- THE TIED CARD OF 'laws.FnBadNumber'. -/
def fnBadNumberCard : Claim7 := { stood := { row := fnBadNumberRow, standIns := [], harness := (true, "ae2fc34026476cd7c4e600893da3010dcf8f35e1f97b8c75eb9a5015bf6d3a64"), looks := true }, kinds := [], alts := [], laidByText := true, laidKinds := [.data, .data, .data, .data, .sentinel, .sentinel, .data, .data, .data, .pinned, .pinned, .pinned], laidTests := true, laidLooks := .later }
def FnBadNumberCardSaid : Prop := Claim7.holds Tryd.pinned (.plain (OpenSpec.ofChange fnBadNumberSpec)) fnBadNumberCard

/-- THE SECOND FORM's CARD OF 'laws.FnEnds'. -/
def fnEndsUptoCard : Claim7 := { stood := { row := fnEndsUptoRow, standIns := [], harness := (true, "ae2fc34026476cd7c4e600893da3010dcf8f35e1f97b8c75eb9a5015bf6d3a64"), looks := true }, kinds := [], alts := [], laidByText := true, laidKinds := [.data, .data, .data, .data, .sentinel, .sentinel, .data, .data, .data, .pinned, .pinned, .pinned], laidTests := true, laidLooks := .later }
def FnEndsUptoCardSaid : Prop := Claim7.holds Tryd.pinned (.plain (OpenSpec.upto fnEndsSpec)) fnEndsUptoCard

/-- THE SECOND FORM's CARD OF 'laws.FnModes'. -/
def fnModesUptoCard : Claim7 := { stood := { row := fnModesUptoRow, standIns := [], harness := (true, "ae2fc34026476cd7c4e600893da3010dcf8f35e1f97b8c75eb9a5015bf6d3a64"), looks := true }, kinds := [], alts := [], laidByText := true, laidKinds := [.data, .data, .data, .data, .sentinel, .sentinel, .data, .data, .data, .pinned, .pinned, .pinned], laidTests := true, laidLooks := .later }
def FnModesUptoCardSaid : Prop := Claim7.holds Tryd.pinned (.plain (OpenSpec.upto fnModesSpec)) fnModesUptoCard

/-- THE SECOND FORM's CARD OF 'laws.FnEscape'. -/
def fnEscapeUptoCard : Claim7 := { stood := { row := fnEscapeUptoRow, standIns := [], harness := (true, "ae2fc34026476cd7c4e600893da3010dcf8f35e1f97b8c75eb9a5015bf6d3a64"), looks := true }, kinds := [], alts := [], laidByText := true, laidKinds := [.data, .data, .data, .data, .sentinel, .sentinel, .data, .data, .data, .pinned, .pinned, .pinned], laidTests := true, laidLooks := .later }
def FnEscapeUptoCardSaid : Prop := Claim7.holds Tryd.pinned (.plain (OpenSpec.upto fnEscapeSpec)) fnEscapeUptoCard

/-- THE SECOND FORM's CARD OF 'laws.FnGlued'. -/
def fnGluedUptoCard : Claim7 := { stood := { row := fnGluedUptoRow, standIns := [], harness := (true, "ae2fc34026476cd7c4e600893da3010dcf8f35e1f97b8c75eb9a5015bf6d3a64"), looks := true }, kinds := [], alts := [], laidByText := true, laidKinds := [.data, .data, .data, .data, .sentinel, .sentinel, .data, .data, .data, .pinned, .pinned, .pinned], laidTests := true, laidLooks := .later }
def FnGluedUptoCardSaid : Prop := Claim7.holds Tryd.pinned (.plain (OpenSpec.upto fnGluedSpec)) fnGluedUptoCard

/-- THE SECOND FORM's CARD OF 'laws.FnName'. -/
def fnNameUptoCard : Claim7 := { stood := { row := fnNameUptoRow, standIns := [], harness := (true, "ae2fc34026476cd7c4e600893da3010dcf8f35e1f97b8c75eb9a5015bf6d3a64"), looks := true }, kinds := [], alts := [], laidByText := true, laidKinds := [.data, .data, .data, .data, .sentinel, .sentinel, .data, .data, .data, .pinned, .pinned, .pinned], laidTests := true, laidLooks := .later }
def FnNameUptoCardSaid : Prop := Claim7.holds Tryd.pinned (.plain (OpenSpec.upto fnNameSpec)) fnNameUptoCard

/-- THE SECOND FORM's CARD OF 'laws.FnRaw'. -/
def fnRawUptoCard : Claim7 := { stood := { row := fnRawUptoRow, standIns := [], harness := (true, "ae2fc34026476cd7c4e600893da3010dcf8f35e1f97b8c75eb9a5015bf6d3a64"), looks := true }, kinds := [], alts := [], laidByText := true, laidKinds := [.data, .data, .data, .data, .sentinel, .sentinel, .data, .data, .data, .pinned, .pinned, .pinned], laidTests := true, laidLooks := .later }
def FnRawUptoCardSaid : Prop := Claim7.holds Tryd.pinned (.plain (OpenSpec.upto fnRawSpec)) fnRawUptoCard

/-- THE SECOND FORM's CARD OF 'laws.FnRune'. -/
def fnRuneUptoCard : Claim7 := { stood := { row := fnRuneUptoRow, standIns := [], harness := (true, "ae2fc34026476cd7c4e600893da3010dcf8f35e1f97b8c75eb9a5015bf6d3a64"), looks := true }, kinds := [], alts := [], laidByText := true, laidKinds := [.data, .data, .data, .data, .sentinel, .sentinel, .data, .data, .data, .pinned, .pinned, .pinned], laidTests := true, laidLooks := .later }
def FnRuneUptoCardSaid : Prop := Claim7.holds Tryd.pinned (.plain (OpenSpec.upto fnRuneSpec)) fnRuneUptoCard

/-- THE SECOND FORM's CARD OF 'laws.FnString'. -/
def fnStringUptoCard : Claim7 := { stood := { row := fnStringUptoRow, standIns := [], harness := (true, "ae2fc34026476cd7c4e600893da3010dcf8f35e1f97b8c75eb9a5015bf6d3a64"), looks := true }, kinds := [], alts := [], laidByText := true, laidKinds := [.data, .data, .data, .data, .sentinel, .sentinel, .data, .data, .data, .pinned, .pinned, .pinned], laidTests := true, laidLooks := .later }
def FnStringUptoCardSaid : Prop := Claim7.holds Tryd.pinned (.plain (OpenSpec.upto fnStringSpec)) fnStringUptoCard

/-- THE SECOND FORM's CARD OF 'laws.FnImaginary'. -/
def fnImaginaryUptoCard : Claim7 := { stood := { row := fnImaginaryUptoRow, standIns := [], harness := (true, "ae2fc34026476cd7c4e600893da3010dcf8f35e1f97b8c75eb9a5015bf6d3a64"), looks := true }, kinds := [], alts := [], laidByText := true, laidKinds := [.data, .data, .data, .data, .sentinel, .sentinel, .data, .data, .data, .pinned, .pinned, .pinned], laidTests := true, laidLooks := .later }
def FnImaginaryUptoCardSaid : Prop := Claim7.holds Tryd.pinned (.plain (OpenSpec.upto fnImaginarySpec)) fnImaginaryUptoCard

/-- THE SECOND FORM's CARD OF 'laws.FnNumber'. -/
def fnNumberUptoCard : Claim7 := { stood := { row := fnNumberUptoRow, standIns := [], harness := (true, "ae2fc34026476cd7c4e600893da3010dcf8f35e1f97b8c75eb9a5015bf6d3a64"), looks := true }, kinds := [], alts := [], laidByText := true, laidKinds := [.data, .data, .data, .data, .sentinel, .sentinel, .data, .data, .data, .pinned, .pinned, .pinned], laidTests := true, laidLooks := .later }
def FnNumberUptoCardSaid : Prop := Claim7.holds Tryd.pinned (.plain (OpenSpec.upto fnNumberSpec)) fnNumberUptoCard

/-- THE SECOND FORM's CARD OF 'laws.FnUnclosed'. -/
def fnUnclosedUptoCard : Claim7 := { stood := { row := fnUnclosedUptoRow, standIns := [], harness := (true, "ae2fc34026476cd7c4e600893da3010dcf8f35e1f97b8c75eb9a5015bf6d3a64"), looks := true }, kinds := [], alts := [], laidByText := true, laidKinds := [.data, .data, .data, .data, .sentinel, .sentinel, .data, .data, .data, .pinned, .pinned, .pinned], laidTests := true, laidLooks := .later }
def FnUnclosedUptoCardSaid : Prop := Claim7.holds Tryd.pinned (.plain (OpenSpec.upto fnUnclosedSpec)) fnUnclosedUptoCard

/-- THE SECOND FORM's CARD OF 'laws.FnBadNumber'. -/
def fnBadNumberUptoCard : Claim7 := { stood := { row := fnBadNumberUptoRow, standIns := [], harness := (true, "ae2fc34026476cd7c4e600893da3010dcf8f35e1f97b8c75eb9a5015bf6d3a64"), looks := true }, kinds := [], alts := [], laidByText := true, laidKinds := [.data, .data, .data, .data, .sentinel, .sentinel, .data, .data, .data, .pinned, .pinned, .pinned], laidTests := true, laidLooks := .later }
def FnBadNumberUptoCardSaid : Prop := Claim7.holds Tryd.pinned (.plain (OpenSpec.upto fnBadNumberSpec)) fnBadNumberUptoCard
end Rows
end Go.Proofs.YtogkcphobhhbdaaDoor
