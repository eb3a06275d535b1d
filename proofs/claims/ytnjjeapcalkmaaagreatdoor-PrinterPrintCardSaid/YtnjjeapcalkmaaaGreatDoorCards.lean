/-
  DERIVED. GIVEN WITH THE SEED: THE CARDS: each row of YtnjjeapcalkmaaaGreatDoorRows.lean that lists a variable, with what it lists TIED to the program's text (the seventh form; the later family's looks); each row that meets fmt, with fmt's text TOLD by the authors' own Lean function (tested against real Go, not proved from fmt's source: count such statements apart). THE CARD IS WHAT COUNTS. Prove the row's statement (the work); the ties are given (YtnjjeapcalkmaaaGreatDoorTie.lean); close each card by the builder's one call (the guide's Derived/Test/ToyasCard.lean, 'card_holds'). Laid BY PROGRAM, IN A SANDBOX (cutbox-door.mjs). By AI agents, Wed Nov 11 2026. No macro, syntax, notation, axiom, sorry.
-/
import Derived.Test.YtnjjeapcalkmaaaGreatDoorRows
import GoSem.ClaimSeven
namespace Go.Proofs.YtnjjeapcalkmaaaGreatDoor
namespace Rows

/-- THE TIED CARD OF 'girolaw19.ParserForms'. -/
def parserFormsCard : Claim7 := { stood := { row := parserFormsRow, standIns := [], harness := (true, "47f1e2c8d9e6d5b506a356d949d868a39d4d62f43695ad89debecb9ddd2c196a"), looks := true }, kinds := [], alts := [], laidByText := true, laidKinds := [.data, .data, .data, .data, .sentinel, .sentinel, .funcsDeep, .funcs, .widerDeep, .pinned], laidTests := true, laidLooks := .later }
def ParserFormsCardSaid : Prop := Claim7.holds Tryz.pinned (.plain (OpenSpec.ofChange parserFormsSpec)) parserFormsCard

/-- THE TIED CARD OF 'girolaw19.ParserTruncation'. -/
def parserTruncationCard : Claim7 := { stood := { row := parserTruncationRow, standIns := [], harness := (true, "47f1e2c8d9e6d5b506a356d949d868a39d4d62f43695ad89debecb9ddd2c196a"), looks := true }, kinds := [], alts := [], laidByText := true, laidKinds := [.data, .data, .data, .data, .sentinel, .sentinel, .funcsDeep, .funcs, .widerDeep, .pinned], laidTests := true, laidLooks := .later }
def ParserTruncationCardSaid : Prop := Claim7.holds Tryz.pinned (.plain (OpenSpec.ofChange parserTruncationSpec)) parserTruncationCard

/-- THE TIED CARD OF 'girolaw20.PrinterPrint'. -/
def printerPrintCard : Claim7 := { stood := { row := printerPrintRow, standIns := [], harness := (true, "47f1e2c8d9e6d5b506a356d949d868a39d4d62f43695ad89debecb9ddd2c196a"), looks := true }, kinds := [], alts := [], laidByText := true, laidKinds := [.data, .data, .data, .data, .sentinel, .sentinel, .funcsDeep, .funcs, .widerDeep, .widerDeep, .widerDeep, .pinned], laidTests := true, laidLooks := .later }
def PrinterPrintCardSaid : Prop := Claim7.holds Tryz.pinned (.plain (OpenSpec.ofChange printerPrintSpec)) printerPrintCard

/-- THE TIED CARD OF 'girolaw20.PrinterCanonical'. -/
def printerCanonicalCard : Claim7 := { stood := { row := printerCanonicalRow, standIns := [], harness := (true, "47f1e2c8d9e6d5b506a356d949d868a39d4d62f43695ad89debecb9ddd2c196a"), looks := true }, kinds := [], alts := [], laidByText := true, laidKinds := [.data, .data, .data, .data, .sentinel, .sentinel, .funcsDeep, .funcs, .widerDeep, .widerDeep, .widerDeep, .pinned], laidTests := true, laidLooks := .later }
def PrinterCanonicalCardSaid : Prop := Claim7.holds Tryz.pinned (.plain (OpenSpec.ofChange printerCanonicalSpec)) printerCanonicalCard

/-- THE TIED CARD OF 'girolaw20.PrinterRoundTrip'. -/
def printerRoundTripCard : Claim7 := { stood := { row := printerRoundTripRow, standIns := [], harness := (true, "47f1e2c8d9e6d5b506a356d949d868a39d4d62f43695ad89debecb9ddd2c196a"), looks := true }, kinds := [], alts := [], laidByText := true, laidKinds := [.data, .data, .data, .data, .sentinel, .sentinel, .funcsDeep, .funcs, .widerDeep, .widerDeep, .widerDeep, .pinned], laidTests := true, laidLooks := .later }
def PrinterRoundTripCardSaid : Prop := Claim7.holds Tryz.pinned (.plain (OpenSpec.ofChange printerRoundTripSpec)) printerRoundTripCard

/-- THE TIED CARD OF 'girolaw20.PrinterInjective'. -/
def printerInjectiveCard : Claim7 := { stood := { row := printerInjectiveRow, standIns := [], harness := (true, "47f1e2c8d9e6d5b506a356d949d868a39d4d62f43695ad89debecb9ddd2c196a"), looks := true }, kinds := [], alts := [], laidByText := true, laidKinds := [.data, .data, .data, .data, .sentinel, .sentinel, .funcsDeep, .funcs, .widerDeep, .widerDeep, .widerDeep, .pinned], laidTests := true, laidLooks := .later }
def PrinterInjectiveCardSaid : Prop := Claim7.holds Tryz.pinned (.plain (OpenSpec.ofChange printerInjectiveSpec)) printerInjectiveCard

/-- THE TIED CARD OF 'girolaw20.PrinterMeaning'. -/
def printerMeaningCard : Claim7 := { stood := { row := printerMeaningRow, standIns := [], harness := (true, "47f1e2c8d9e6d5b506a356d949d868a39d4d62f43695ad89debecb9ddd2c196a"), looks := true }, kinds := [], alts := [], laidByText := true, laidKinds := [.data, .data, .data, .data, .sentinel, .sentinel, .funcsDeep, .funcs, .widerDeep, .widerDeep, .widerDeep, .pinned], laidTests := true, laidLooks := .later }
def PrinterMeaningCardSaid : Prop := Claim7.holds Tryz.pinned (.plain (OpenSpec.ofChange printerMeaningSpec)) printerMeaningCard

/-- THE TIED CARD OF 'girolaw20.PrinterDifference'. -/
def printerDifferenceCard : Claim7 := { stood := { row := printerDifferenceRow, standIns := [], harness := (true, "47f1e2c8d9e6d5b506a356d949d868a39d4d62f43695ad89debecb9ddd2c196a"), looks := true }, kinds := [], alts := [], laidByText := true, laidKinds := [.data, .data, .data, .data, .sentinel, .sentinel, .funcsDeep, .funcs, .widerDeep, .widerDeep, .widerDeep, .pinned], laidTests := true, laidLooks := .later }
def PrinterDifferenceCardSaid : Prop := Claim7.holds Tryz.pinned (.plain (OpenSpec.ofChange printerDifferenceSpec)) printerDifferenceCard

/-- THE TIED CARD OF 'girolaw20.PrinterAll'. -/
def printerAllCard : Claim7 := { stood := { row := printerAllRow, standIns := [], harness := (true, "47f1e2c8d9e6d5b506a356d949d868a39d4d62f43695ad89debecb9ddd2c196a"), looks := true }, kinds := [], alts := [], laidByText := true, laidKinds := [.data, .data, .data, .data, .sentinel, .sentinel, .funcsDeep, .funcs, .widerDeep, .widerDeep, .widerDeep, .pinned], laidTests := true, laidLooks := .later }
def PrinterAllCardSaid : Prop := Claim7.holds Tryz.pinned (.plain (OpenSpec.ofChange printerAllSpec)) printerAllCard

/-- THE TIED CARD OF 'girolaw20.PrinterColumns'. -/
def printerColumnsCard : Claim7 := { stood := { row := printerColumnsRow, standIns := [], harness := (true, "47f1e2c8d9e6d5b506a356d949d868a39d4d62f43695ad89debecb9ddd2c196a"), looks := true }, kinds := [], alts := [], laidByText := true, laidKinds := [.data, .data, .data, .data, .sentinel, .sentinel, .funcsDeep, .funcs, .widerDeep, .widerDeep, .widerDeep, .pinned], laidTests := true, laidLooks := .later }
def PrinterColumnsCardSaid : Prop := Claim7.holds Tryz.pinned (.plain (OpenSpec.ofChange printerColumnsSpec)) printerColumnsCard

/-- THE SECOND FORM's CARD OF 'girolaw19.ParserForms'. -/
def parserFormsUptoCard : Claim7 := { stood := { row := parserFormsUptoRow, standIns := [], harness := (true, "47f1e2c8d9e6d5b506a356d949d868a39d4d62f43695ad89debecb9ddd2c196a"), looks := true }, kinds := [], alts := [], laidByText := true, laidKinds := [.data, .data, .data, .data, .sentinel, .sentinel, .funcsDeep, .funcs, .widerDeep, .pinned], laidTests := true, laidLooks := .later }
def ParserFormsUptoCardSaid : Prop := Claim7.holds Tryz.pinned (.plain (OpenSpec.upto parserFormsSpec)) parserFormsUptoCard

/-- THE SECOND FORM's CARD OF 'girolaw19.ParserTruncation'. -/
def parserTruncationUptoCard : Claim7 := { stood := { row := parserTruncationUptoRow, standIns := [], harness := (true, "47f1e2c8d9e6d5b506a356d949d868a39d4d62f43695ad89debecb9ddd2c196a"), looks := true }, kinds := [], alts := [], laidByText := true, laidKinds := [.data, .data, .data, .data, .sentinel, .sentinel, .funcsDeep, .funcs, .widerDeep, .pinned], laidTests := true, laidLooks := .later }
def ParserTruncationUptoCardSaid : Prop := Claim7.holds Tryz.pinned (.plain (OpenSpec.upto parserTruncationSpec)) parserTruncationUptoCard

/-- THE SECOND FORM's CARD OF 'girolaw20.PrinterPrint'. -/
def printerPrintUptoCard : Claim7 := { stood := { row := printerPrintUptoRow, standIns := [], harness := (true, "47f1e2c8d9e6d5b506a356d949d868a39d4d62f43695ad89debecb9ddd2c196a"), looks := true }, kinds := [], alts := [], laidByText := true, laidKinds := [.data, .data, .data, .data, .sentinel, .sentinel, .funcsDeep, .funcs, .widerDeep, .widerDeep, .widerDeep, .pinned], laidTests := true, laidLooks := .later }
def PrinterPrintUptoCardSaid : Prop := Claim7.holds Tryz.pinned (.plain (OpenSpec.upto printerPrintSpec)) printerPrintUptoCard

/-- THE SECOND FORM's CARD OF 'girolaw20.PrinterCanonical'. -/
def printerCanonicalUptoCard : Claim7 := { stood := { row := printerCanonicalUptoRow, standIns := [], harness := (true, "47f1e2c8d9e6d5b506a356d949d868a39d4d62f43695ad89debecb9ddd2c196a"), looks := true }, kinds := [], alts := [], laidByText := true, laidKinds := [.data, .data, .data, .data, .sentinel, .sentinel, .funcsDeep, .funcs, .widerDeep, .widerDeep, .widerDeep, .pinned], laidTests := true, laidLooks := .later }
def PrinterCanonicalUptoCardSaid : Prop := Claim7.holds Tryz.pinned (.plain (OpenSpec.upto printerCanonicalSpec)) printerCanonicalUptoCard

/-- THE SECOND FORM's CARD OF 'girolaw20.PrinterRoundTrip'. -/
def printerRoundTripUptoCard : Claim7 := { stood := { row := printerRoundTripUptoRow, standIns := [], harness := (true, "47f1e2c8d9e6d5b506a356d949d868a39d4d62f43695ad89debecb9ddd2c196a"), looks := true }, kinds := [], alts := [], laidByText := true, laidKinds := [.data, .data, .data, .data, .sentinel, .sentinel, .funcsDeep, .funcs, .widerDeep, .widerDeep, .widerDeep, .pinned], laidTests := true, laidLooks := .later }
def PrinterRoundTripUptoCardSaid : Prop := Claim7.holds Tryz.pinned (.plain (OpenSpec.upto printerRoundTripSpec)) printerRoundTripUptoCard

/-- THE SECOND FORM's CARD OF 'girolaw20.PrinterInjective'. -/
def printerInjectiveUptoCard : Claim7 := { stood := { row := printerInjectiveUptoRow, standIns := [], harness := (true, "47f1e2c8d9e6d5b506a356d949d868a39d4d62f43695ad89debecb9ddd2c196a"), looks := true }, kinds := [], alts := [], laidByText := true, laidKinds := [.data, .data, .data, .data, .sentinel, .sentinel, .funcsDeep, .funcs, .widerDeep, .widerDeep, .widerDeep, .pinned], laidTests := true, laidLooks := .later }
def PrinterInjectiveUptoCardSaid : Prop := Claim7.holds Tryz.pinned (.plain (OpenSpec.upto printerInjectiveSpec)) printerInjectiveUptoCard

/-- THE SECOND FORM's CARD OF 'girolaw20.PrinterMeaning'. -/
def printerMeaningUptoCard : Claim7 := { stood := { row := printerMeaningUptoRow, standIns := [], harness := (true, "47f1e2c8d9e6d5b506a356d949d868a39d4d62f43695ad89debecb9ddd2c196a"), looks := true }, kinds := [], alts := [], laidByText := true, laidKinds := [.data, .data, .data, .data, .sentinel, .sentinel, .funcsDeep, .funcs, .widerDeep, .widerDeep, .widerDeep, .pinned], laidTests := true, laidLooks := .later }
def PrinterMeaningUptoCardSaid : Prop := Claim7.holds Tryz.pinned (.plain (OpenSpec.upto printerMeaningSpec)) printerMeaningUptoCard

/-- THE SECOND FORM's CARD OF 'girolaw20.PrinterDifference'. -/
def printerDifferenceUptoCard : Claim7 := { stood := { row := printerDifferenceUptoRow, standIns := [], harness := (true, "47f1e2c8d9e6d5b506a356d949d868a39d4d62f43695ad89debecb9ddd2c196a"), looks := true }, kinds := [], alts := [], laidByText := true, laidKinds := [.data, .data, .data, .data, .sentinel, .sentinel, .funcsDeep, .funcs, .widerDeep, .widerDeep, .widerDeep, .pinned], laidTests := true, laidLooks := .later }
def PrinterDifferenceUptoCardSaid : Prop := Claim7.holds Tryz.pinned (.plain (OpenSpec.upto printerDifferenceSpec)) printerDifferenceUptoCard

/-- THE SECOND FORM's CARD OF 'girolaw20.PrinterAll'. -/
def printerAllUptoCard : Claim7 := { stood := { row := printerAllUptoRow, standIns := [], harness := (true, "47f1e2c8d9e6d5b506a356d949d868a39d4d62f43695ad89debecb9ddd2c196a"), looks := true }, kinds := [], alts := [], laidByText := true, laidKinds := [.data, .data, .data, .data, .sentinel, .sentinel, .funcsDeep, .funcs, .widerDeep, .widerDeep, .widerDeep, .pinned], laidTests := true, laidLooks := .later }
def PrinterAllUptoCardSaid : Prop := Claim7.holds Tryz.pinned (.plain (OpenSpec.upto printerAllSpec)) printerAllUptoCard

/-- THE SECOND FORM's CARD OF 'girolaw20.PrinterColumns'. -/
def printerColumnsUptoCard : Claim7 := { stood := { row := printerColumnsUptoRow, standIns := [], harness := (true, "47f1e2c8d9e6d5b506a356d949d868a39d4d62f43695ad89debecb9ddd2c196a"), looks := true }, kinds := [], alts := [], laidByText := true, laidKinds := [.data, .data, .data, .data, .sentinel, .sentinel, .funcsDeep, .funcs, .widerDeep, .widerDeep, .widerDeep, .pinned], laidTests := true, laidLooks := .later }
def PrinterColumnsUptoCardSaid : Prop := Claim7.holds Tryz.pinned (.plain (OpenSpec.upto printerColumnsSpec)) printerColumnsUptoCard
end Rows
end Go.Proofs.YtnjjeapcalkmaaaGreatDoor
