/-
  DERIVED. GIVEN WITH THE SEED: THE CARDS: each row of YtcbliojofnigdaaGreatDoorRows.lean that lists a variable, with what it lists TIED to the program's text (the seventh form; the later family's looks); each row that meets fmt, with fmt's text TOLD by the authors' own Lean function (tested against real Go, not proved from fmt's source: count such statements apart). THE CARD IS WHAT COUNTS. Prove the row's statement (the work); the ties are given (YtcbliojofnigdaaGreatDoorTie.lean); close each card by the builder's one call (the guide's Derived/Test/ToyasCard.lean, 'card_holds'). Laid BY PROGRAM, IN A SANDBOX (cutbox-door.mjs). By AI agents, Wed Nov 11 2026. No macro, syntax, notation, axiom, sorry.
-/
import Derived.Test.YtcbliojofnigdaaGreatDoorRows
import GoSem.ClaimSeven
namespace Go.Proofs.YtcbliojofnigdaaGreatDoor
namespace Rows

/-- THE TIED CARD OF 'laws.FnBadVerb'. -/
def fnBadVerbCard : Claim7 := { stood := { row := fnBadVerbRow, standIns := [], harness := (true, "7f732fa8c297b9e8321412a2cb319e2469d01ba116e7aee49c0bfa03d1025942"), looks := true }, kinds := [], alts := [], laidByText := true, laidKinds := [.data, .data, .data, .data, .data, .pinned, .pinned, .pinned, .pinned, .pinned, .pinned, .pinned, .pinned], laidTests := true, laidLooks := .later }
def FnBadVerbCardSaid : Prop := Claim7.holds Tryz.pinned (.plain (OpenSpec.ofChange fnBadVerbSpec)) fnBadVerbCard

/-- THE TIED CARD OF 'laws.FnBoolAndNil'. -/
def fnBoolAndNilCard : Claim7 := { stood := { row := fnBoolAndNilRow, standIns := [], harness := (true, "7f732fa8c297b9e8321412a2cb319e2469d01ba116e7aee49c0bfa03d1025942"), looks := true }, kinds := [], alts := [], laidByText := true, laidKinds := [.data, .data, .data, .data, .data, .pinned, .pinned, .pinned, .pinned, .pinned, .pinned, .pinned, .pinned], laidTests := true, laidLooks := .later }
def FnBoolAndNilCardSaid : Prop := Claim7.holds Tryz.pinned (.plain (OpenSpec.ofChange fnBoolAndNilSpec)) fnBoolAndNilCard

/-- THE TIED CARD OF 'laws.FnBytesList'. -/
def fnBytesListCard : Claim7 := { stood := { row := fnBytesListRow, standIns := [], harness := (true, "7f732fa8c297b9e8321412a2cb319e2469d01ba116e7aee49c0bfa03d1025942"), looks := true }, kinds := [], alts := [], laidByText := true, laidKinds := [.data, .data, .data, .data, .data, .pinned, .pinned, .pinned, .pinned, .pinned, .pinned, .pinned, .pinned], laidTests := true, laidLooks := .later }
def FnBytesListCardSaid : Prop := Claim7.holds Tryz.pinned (.plain (OpenSpec.ofChange fnBytesListSpec)) fnBytesListCard

/-- THE TIED CARD OF 'laws.FnChar'. -/
def fnCharCard : Claim7 := { stood := { row := fnCharRow, standIns := [], harness := (true, "7f732fa8c297b9e8321412a2cb319e2469d01ba116e7aee49c0bfa03d1025942"), looks := true }, kinds := [], alts := [], laidByText := true, laidKinds := [.data, .data, .data, .data, .data, .pinned, .pinned, .pinned, .pinned, .pinned, .pinned, .pinned, .pinned], laidTests := true, laidLooks := .later }
def FnCharCardSaid : Prop := Claim7.holds Tryz.pinned (.plain (OpenSpec.ofChange fnCharSpec)) fnCharCard

/-- THE TIED CARD OF 'laws.FnFixed'. -/
def fnFixedCard : Claim7 := { stood := { row := fnFixedRow, standIns := [], harness := (true, "7f732fa8c297b9e8321412a2cb319e2469d01ba116e7aee49c0bfa03d1025942"), looks := true }, kinds := [], alts := [], laidByText := true, laidKinds := [.data, .data, .data, .data, .data, .pinned, .pinned, .pinned, .pinned, .pinned, .pinned, .pinned, .pinned], laidTests := true, laidLooks := .later }
def FnFixedCardSaid : Prop := Claim7.holds Tryz.pinned (.plain (OpenSpec.ofChange fnFixedSpec)) fnFixedCard

/-- THE TIED CARD OF 'laws.FnFloat'. -/
def fnFloatCard : Claim7 := { stood := { row := fnFloatRow, standIns := [], harness := (true, "7f732fa8c297b9e8321412a2cb319e2469d01ba116e7aee49c0bfa03d1025942"), looks := true }, kinds := [], alts := [], laidByText := true, laidKinds := [.data, .data, .data, .data, .data, .pinned, .pinned, .pinned, .pinned, .pinned, .pinned, .pinned, .pinned], laidTests := true, laidLooks := .later }
def FnFloatCardSaid : Prop := Claim7.holds Tryz.pinned (.plain (OpenSpec.ofChange fnFloatSpec)) fnFloatCard

/-- THE TIED CARD OF 'laws.FnFormat'. -/
def fnFormatCard : Claim7 := { stood := { row := fnFormatRow, standIns := [], harness := (true, "7f732fa8c297b9e8321412a2cb319e2469d01ba116e7aee49c0bfa03d1025942"), looks := true }, kinds := [], alts := [], laidByText := true, laidKinds := [.data, .data, .data, .data, .data, .pinned, .pinned, .pinned, .pinned, .pinned, .pinned, .pinned, .pinned], laidTests := true, laidLooks := .later }
def FnFormatCardSaid : Prop := Claim7.holds Tryz.pinned (.plain (OpenSpec.ofChange fnFormatSpec)) fnFormatCard

/-- THE TIED CARD OF 'laws.FnInteger'. -/
def fnIntegerCard : Claim7 := { stood := { row := fnIntegerRow, standIns := [], harness := (true, "7f732fa8c297b9e8321412a2cb319e2469d01ba116e7aee49c0bfa03d1025942"), looks := true }, kinds := [], alts := [], laidByText := true, laidKinds := [.data, .data, .data, .data, .data, .pinned, .pinned, .pinned, .pinned, .pinned, .pinned, .pinned, .pinned], laidTests := true, laidLooks := .later }
def FnIntegerCardSaid : Prop := Claim7.holds Tryz.pinned (.plain (OpenSpec.ofChange fnIntegerSpec)) fnIntegerCard

/-- THE TIED CARD OF 'laws.FnQuoted'. -/
def fnQuotedCard : Claim7 := { stood := { row := fnQuotedRow, standIns := [], harness := (true, "7f732fa8c297b9e8321412a2cb319e2469d01ba116e7aee49c0bfa03d1025942"), looks := true }, kinds := [], alts := [], laidByText := true, laidKinds := [.data, .data, .data, .data, .data, .pinned, .pinned, .pinned, .pinned, .pinned, .pinned, .pinned, .pinned], laidTests := true, laidLooks := .later }
def FnQuotedCardSaid : Prop := Claim7.holds Tryz.pinned (.plain (OpenSpec.ofChange fnQuotedSpec)) fnQuotedCard

/-- THE TIED CARD OF 'laws.FnString'. -/
def fnStringCard : Claim7 := { stood := { row := fnStringRow, standIns := [], harness := (true, "7f732fa8c297b9e8321412a2cb319e2469d01ba116e7aee49c0bfa03d1025942"), looks := true }, kinds := [], alts := [], laidByText := true, laidKinds := [.data, .data, .data, .data, .data, .pinned, .pinned, .pinned, .pinned, .pinned, .pinned, .pinned, .pinned], laidTests := true, laidLooks := .later }
def FnStringCardSaid : Prop := Claim7.holds Tryz.pinned (.plain (OpenSpec.ofChange fnStringSpec)) fnStringCard

/-- THE TIED CARD OF 'laws.FnTextsStay'. -/
def fnTextsStayCard : Claim7 := { stood := { row := fnTextsStayRow, standIns := [], harness := (true, "7f732fa8c297b9e8321412a2cb319e2469d01ba116e7aee49c0bfa03d1025942"), looks := true }, kinds := [], alts := [], laidByText := true, laidKinds := [.data, .data, .data, .data, .data, .pinned, .pinned, .pinned, .pinned, .pinned, .pinned, .pinned, .pinned], laidTests := true, laidLooks := .later }
def FnTextsStayCardSaid : Prop := Claim7.holds Tryz.pinned (.plain (OpenSpec.ofChange fnTextsStaySpec)) fnTextsStayCard

/-- THE TIED CARD OF 'laws.FnPrintln'. -/
def fnPrintlnCard : Claim7 := { stood := { row := fnPrintlnRow, standIns := [], harness := (true, "7f732fa8c297b9e8321412a2cb319e2469d01ba116e7aee49c0bfa03d1025942"), looks := true }, kinds := [], alts := [], laidByText := true, laidKinds := [.data, .data, .data, .data, .data, .pinned, .pinned, .pinned, .pinned, .pinned, .pinned, .pinned, .pinned], laidTests := true, laidLooks := .later }
def FnPrintlnCardSaid : Prop := Claim7.holds Tryz.pinned (.plain (OpenSpec.ofChange fnPrintlnSpec)) fnPrintlnCard

/-- THE TIED CARD OF 'laws.FnPrint'. -/
def fnPrintCard : Claim7 := { stood := { row := fnPrintRow, standIns := [], harness := (true, "7f732fa8c297b9e8321412a2cb319e2469d01ba116e7aee49c0bfa03d1025942"), looks := true }, kinds := [], alts := [], laidByText := true, laidKinds := [.data, .data, .data, .data, .data, .pinned, .pinned, .pinned, .pinned, .pinned, .pinned, .pinned, .pinned], laidTests := true, laidLooks := .later }
def FnPrintCardSaid : Prop := Claim7.holds Tryz.pinned (.plain (OpenSpec.ofChange fnPrintSpec)) fnPrintCard

/-- THE SECOND FORM's CARD OF 'laws.FnBadVerb'. -/
def fnBadVerbUptoCard : Claim7 := { stood := { row := fnBadVerbUptoRow, standIns := [], harness := (true, "7f732fa8c297b9e8321412a2cb319e2469d01ba116e7aee49c0bfa03d1025942"), looks := true }, kinds := [], alts := [], laidByText := true, laidKinds := [.data, .data, .data, .data, .data, .pinned, .pinned, .pinned, .pinned, .pinned, .pinned, .pinned, .pinned], laidTests := true, laidLooks := .later }
def FnBadVerbUptoCardSaid : Prop := Claim7.holds Tryz.pinned (.plain (OpenSpec.upto fnBadVerbSpec)) fnBadVerbUptoCard

/-- THE SECOND FORM's CARD OF 'laws.FnBoolAndNil'. -/
def fnBoolAndNilUptoCard : Claim7 := { stood := { row := fnBoolAndNilUptoRow, standIns := [], harness := (true, "7f732fa8c297b9e8321412a2cb319e2469d01ba116e7aee49c0bfa03d1025942"), looks := true }, kinds := [], alts := [], laidByText := true, laidKinds := [.data, .data, .data, .data, .data, .pinned, .pinned, .pinned, .pinned, .pinned, .pinned, .pinned, .pinned], laidTests := true, laidLooks := .later }
def FnBoolAndNilUptoCardSaid : Prop := Claim7.holds Tryz.pinned (.plain (OpenSpec.upto fnBoolAndNilSpec)) fnBoolAndNilUptoCard

/-- THE SECOND FORM's CARD OF 'laws.FnBytesList'. -/
def fnBytesListUptoCard : Claim7 := { stood := { row := fnBytesListUptoRow, standIns := [], harness := (true, "7f732fa8c297b9e8321412a2cb319e2469d01ba116e7aee49c0bfa03d1025942"), looks := true }, kinds := [], alts := [], laidByText := true, laidKinds := [.data, .data, .data, .data, .data, .pinned, .pinned, .pinned, .pinned, .pinned, .pinned, .pinned, .pinned], laidTests := true, laidLooks := .later }
def FnBytesListUptoCardSaid : Prop := Claim7.holds Tryz.pinned (.plain (OpenSpec.upto fnBytesListSpec)) fnBytesListUptoCard

/-- THE SECOND FORM's CARD OF 'laws.FnChar'. -/
def fnCharUptoCard : Claim7 := { stood := { row := fnCharUptoRow, standIns := [], harness := (true, "7f732fa8c297b9e8321412a2cb319e2469d01ba116e7aee49c0bfa03d1025942"), looks := true }, kinds := [], alts := [], laidByText := true, laidKinds := [.data, .data, .data, .data, .data, .pinned, .pinned, .pinned, .pinned, .pinned, .pinned, .pinned, .pinned], laidTests := true, laidLooks := .later }
def FnCharUptoCardSaid : Prop := Claim7.holds Tryz.pinned (.plain (OpenSpec.upto fnCharSpec)) fnCharUptoCard

/-- THE SECOND FORM's CARD OF 'laws.FnFixed'. -/
def fnFixedUptoCard : Claim7 := { stood := { row := fnFixedUptoRow, standIns := [], harness := (true, "7f732fa8c297b9e8321412a2cb319e2469d01ba116e7aee49c0bfa03d1025942"), looks := true }, kinds := [], alts := [], laidByText := true, laidKinds := [.data, .data, .data, .data, .data, .pinned, .pinned, .pinned, .pinned, .pinned, .pinned, .pinned, .pinned], laidTests := true, laidLooks := .later }
def FnFixedUptoCardSaid : Prop := Claim7.holds Tryz.pinned (.plain (OpenSpec.upto fnFixedSpec)) fnFixedUptoCard

/-- THE SECOND FORM's CARD OF 'laws.FnFloat'. -/
def fnFloatUptoCard : Claim7 := { stood := { row := fnFloatUptoRow, standIns := [], harness := (true, "7f732fa8c297b9e8321412a2cb319e2469d01ba116e7aee49c0bfa03d1025942"), looks := true }, kinds := [], alts := [], laidByText := true, laidKinds := [.data, .data, .data, .data, .data, .pinned, .pinned, .pinned, .pinned, .pinned, .pinned, .pinned, .pinned], laidTests := true, laidLooks := .later }
def FnFloatUptoCardSaid : Prop := Claim7.holds Tryz.pinned (.plain (OpenSpec.upto fnFloatSpec)) fnFloatUptoCard

/-- THE SECOND FORM's CARD OF 'laws.FnFormat'. -/
def fnFormatUptoCard : Claim7 := { stood := { row := fnFormatUptoRow, standIns := [], harness := (true, "7f732fa8c297b9e8321412a2cb319e2469d01ba116e7aee49c0bfa03d1025942"), looks := true }, kinds := [], alts := [], laidByText := true, laidKinds := [.data, .data, .data, .data, .data, .pinned, .pinned, .pinned, .pinned, .pinned, .pinned, .pinned, .pinned], laidTests := true, laidLooks := .later }
def FnFormatUptoCardSaid : Prop := Claim7.holds Tryz.pinned (.plain (OpenSpec.upto fnFormatSpec)) fnFormatUptoCard

/-- THE SECOND FORM's CARD OF 'laws.FnInteger'. -/
def fnIntegerUptoCard : Claim7 := { stood := { row := fnIntegerUptoRow, standIns := [], harness := (true, "7f732fa8c297b9e8321412a2cb319e2469d01ba116e7aee49c0bfa03d1025942"), looks := true }, kinds := [], alts := [], laidByText := true, laidKinds := [.data, .data, .data, .data, .data, .pinned, .pinned, .pinned, .pinned, .pinned, .pinned, .pinned, .pinned], laidTests := true, laidLooks := .later }
def FnIntegerUptoCardSaid : Prop := Claim7.holds Tryz.pinned (.plain (OpenSpec.upto fnIntegerSpec)) fnIntegerUptoCard

/-- THE SECOND FORM's CARD OF 'laws.FnQuoted'. -/
def fnQuotedUptoCard : Claim7 := { stood := { row := fnQuotedUptoRow, standIns := [], harness := (true, "7f732fa8c297b9e8321412a2cb319e2469d01ba116e7aee49c0bfa03d1025942"), looks := true }, kinds := [], alts := [], laidByText := true, laidKinds := [.data, .data, .data, .data, .data, .pinned, .pinned, .pinned, .pinned, .pinned, .pinned, .pinned, .pinned], laidTests := true, laidLooks := .later }
def FnQuotedUptoCardSaid : Prop := Claim7.holds Tryz.pinned (.plain (OpenSpec.upto fnQuotedSpec)) fnQuotedUptoCard

/-- THE SECOND FORM's CARD OF 'laws.FnString'. -/
def fnStringUptoCard : Claim7 := { stood := { row := fnStringUptoRow, standIns := [], harness := (true, "7f732fa8c297b9e8321412a2cb319e2469d01ba116e7aee49c0bfa03d1025942"), looks := true }, kinds := [], alts := [], laidByText := true, laidKinds := [.data, .data, .data, .data, .data, .pinned, .pinned, .pinned, .pinned, .pinned, .pinned, .pinned, .pinned], laidTests := true, laidLooks := .later }
def FnStringUptoCardSaid : Prop := Claim7.holds Tryz.pinned (.plain (OpenSpec.upto fnStringSpec)) fnStringUptoCard

/-- THE SECOND FORM's CARD OF 'laws.FnTextsStay'. -/
def fnTextsStayUptoCard : Claim7 := { stood := { row := fnTextsStayUptoRow, standIns := [], harness := (true, "7f732fa8c297b9e8321412a2cb319e2469d01ba116e7aee49c0bfa03d1025942"), looks := true }, kinds := [], alts := [], laidByText := true, laidKinds := [.data, .data, .data, .data, .data, .pinned, .pinned, .pinned, .pinned, .pinned, .pinned, .pinned, .pinned], laidTests := true, laidLooks := .later }
def FnTextsStayUptoCardSaid : Prop := Claim7.holds Tryz.pinned (.plain (OpenSpec.upto fnTextsStaySpec)) fnTextsStayUptoCard

/-- THE SECOND FORM's CARD OF 'laws.FnPrintln'. -/
def fnPrintlnUptoCard : Claim7 := { stood := { row := fnPrintlnUptoRow, standIns := [], harness := (true, "7f732fa8c297b9e8321412a2cb319e2469d01ba116e7aee49c0bfa03d1025942"), looks := true }, kinds := [], alts := [], laidByText := true, laidKinds := [.data, .data, .data, .data, .data, .pinned, .pinned, .pinned, .pinned, .pinned, .pinned, .pinned, .pinned], laidTests := true, laidLooks := .later }
def FnPrintlnUptoCardSaid : Prop := Claim7.holds Tryz.pinned (.plain (OpenSpec.upto fnPrintlnSpec)) fnPrintlnUptoCard

/-- THE SECOND FORM's CARD OF 'laws.FnPrint'. -/
def fnPrintUptoCard : Claim7 := { stood := { row := fnPrintUptoRow, standIns := [], harness := (true, "7f732fa8c297b9e8321412a2cb319e2469d01ba116e7aee49c0bfa03d1025942"), looks := true }, kinds := [], alts := [], laidByText := true, laidKinds := [.data, .data, .data, .data, .data, .pinned, .pinned, .pinned, .pinned, .pinned, .pinned, .pinned, .pinned], laidTests := true, laidLooks := .later }
def FnPrintUptoCardSaid : Prop := Claim7.holds Tryz.pinned (.plain (OpenSpec.upto fnPrintSpec)) fnPrintUptoCard
end Rows
end Go.Proofs.YtcbliojofnigdaaGreatDoor
