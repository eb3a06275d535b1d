/-
  DERIVED. GIVEN WITH THE SEED: THE CARDS: each row of YtampjeghdcpgfaaGreatDoorRows.lean that lists a variable, with what it lists TIED to the program's text (the seventh form; the later family's looks); each row that meets fmt, with fmt's text TOLD by the authors' own Lean function (tested against real Go, not proved from fmt's source: count such statements apart). THE CARD IS WHAT COUNTS. Prove the row's statement (the work); the ties are given (YtampjeghdcpgfaaGreatDoorTie.lean); close each card by the builder's one call (the guide's Derived/Test/ToyasCard.lean, 'card_holds'). Laid BY PROGRAM, IN A SANDBOX (cutbox-door.mjs). By AI agents, Wed Nov 11 2026. No macro, syntax, notation, axiom, sorry.
-/
import Derived.Test.YtampjeghdcpgfaaGreatDoorRows
import GoSem.ClaimSeven
namespace Go.Proofs.YtampjeghdcpgfaaGreatDoor
namespace Rows

/-- THE TIED CARD OF 'girolaw19.ParserLines'. -/
def parserLinesCard : Claim7 := { stood := { row := parserLinesRow, standIns := [], harness := (true, "cbfc1868cfd2c10fd7d1ba479f39e487cf522d415426580f6ed78da1e18228b3"), looks := true }, kinds := [], alts := [], laidByText := true, laidKinds := [.data, .data, .data, .data, .sentinel, .sentinel, .funcsDeep, .funcs, .widerDeep, .pinned], laidTests := true, laidLooks := .later }
def ParserLinesCardSaid : Prop := Claim7.holds Tryz.pinned (.plain (OpenSpec.ofChange parserLinesSpec)) parserLinesCard

/-- THE TIED CARD OF 'girolaw19.ParserNumbers'. -/
def parserNumbersCard : Claim7 := { stood := { row := parserNumbersRow, standIns := [], harness := (true, "cbfc1868cfd2c10fd7d1ba479f39e487cf522d415426580f6ed78da1e18228b3"), looks := true }, kinds := [], alts := [], laidByText := true, laidKinds := [.data, .data, .data, .data, .sentinel, .sentinel, .funcsDeep, .funcs, .widerDeep, .pinned], laidTests := true, laidLooks := .later }
def ParserNumbersCardSaid : Prop := Claim7.holds Tryz.pinned (.plain (OpenSpec.ofChange parserNumbersSpec)) parserNumbersCard

/-- THE TIED CARD OF 'girolaw19.ParserForms'. -/
def parserFormsCard : Claim7 := { stood := { row := parserFormsRow, standIns := [], harness := (true, "cbfc1868cfd2c10fd7d1ba479f39e487cf522d415426580f6ed78da1e18228b3"), looks := true }, kinds := [], alts := [], laidByText := true, laidKinds := [.data, .data, .data, .data, .sentinel, .sentinel, .funcsDeep, .funcs, .widerDeep, .pinned], laidTests := true, laidLooks := .later }
def ParserFormsCardSaid : Prop := Claim7.holds Tryz.pinned (.plain (OpenSpec.ofChange parserFormsSpec)) parserFormsCard

/-- THE TIED CARD OF 'girolaw19.ParserValid'. -/
def parserValidCard : Claim7 := { stood := { row := parserValidRow, standIns := [], harness := (true, "cbfc1868cfd2c10fd7d1ba479f39e487cf522d415426580f6ed78da1e18228b3"), looks := true }, kinds := [], alts := [], laidByText := true, laidKinds := [.data, .data, .data, .data, .sentinel, .sentinel, .funcsDeep, .funcs, .widerDeep, .pinned], laidTests := true, laidLooks := .later }
def ParserValidCardSaid : Prop := Claim7.holds Tryz.pinned (.plain (OpenSpec.ofChange parserValidSpec)) parserValidCard

/-- THE TIED CARD OF 'girolaw19.ParserOptions'. -/
def parserOptionsCard : Claim7 := { stood := { row := parserOptionsRow, standIns := [], harness := (true, "cbfc1868cfd2c10fd7d1ba479f39e487cf522d415426580f6ed78da1e18228b3"), looks := true }, kinds := [], alts := [], laidByText := true, laidKinds := [.data, .data, .data, .data, .sentinel, .sentinel, .funcsDeep, .funcs, .widerDeep, .pinned], laidTests := true, laidLooks := .later }
def ParserOptionsCardSaid : Prop := Claim7.holds Tryz.pinned (.plain (OpenSpec.ofChange parserOptionsSpec)) parserOptionsCard

/-- THE TIED CARD OF 'girolaw19.ParserBlanks'. -/
def parserBlanksCard : Claim7 := { stood := { row := parserBlanksRow, standIns := [], harness := (true, "cbfc1868cfd2c10fd7d1ba479f39e487cf522d415426580f6ed78da1e18228b3"), looks := true }, kinds := [], alts := [], laidByText := true, laidKinds := [.data, .data, .data, .data, .sentinel, .sentinel, .funcsDeep, .funcs, .widerDeep, .pinned], laidTests := true, laidLooks := .later }
def ParserBlanksCardSaid : Prop := Claim7.holds Tryz.pinned (.plain (OpenSpec.ofChange parserBlanksSpec)) parserBlanksCard

/-- THE TIED CARD OF 'girolaw19.ParserTruncation'. -/
def parserTruncationCard : Claim7 := { stood := { row := parserTruncationRow, standIns := [], harness := (true, "cbfc1868cfd2c10fd7d1ba479f39e487cf522d415426580f6ed78da1e18228b3"), looks := true }, kinds := [], alts := [], laidByText := true, laidKinds := [.data, .data, .data, .data, .sentinel, .sentinel, .funcsDeep, .funcs, .widerDeep, .pinned], laidTests := true, laidLooks := .later }
def ParserTruncationCardSaid : Prop := Claim7.holds Tryz.pinned (.plain (OpenSpec.ofChange parserTruncationSpec)) parserTruncationCard

/-- THE TIED CARD OF 'girolaw19.ParserText'. -/
def parserTextCard : Claim7 := { stood := { row := parserTextRow, standIns := [], harness := (true, "cbfc1868cfd2c10fd7d1ba479f39e487cf522d415426580f6ed78da1e18228b3"), looks := true }, kinds := [], alts := [], laidByText := true, laidKinds := [.data, .data, .data, .data, .sentinel, .sentinel, .funcsDeep, .funcs, .widerDeep, .pinned], laidTests := true, laidLooks := .later }
def ParserTextCardSaid : Prop := Claim7.holds Tryz.pinned (.plain (OpenSpec.ofChange parserTextSpec)) parserTextCard

/-- THE SECOND FORM's CARD OF 'girolaw19.ParserLines'. -/
def parserLinesUptoCard : Claim7 := { stood := { row := parserLinesUptoRow, standIns := [], harness := (true, "cbfc1868cfd2c10fd7d1ba479f39e487cf522d415426580f6ed78da1e18228b3"), looks := true }, kinds := [], alts := [], laidByText := true, laidKinds := [.data, .data, .data, .data, .sentinel, .sentinel, .funcsDeep, .funcs, .widerDeep, .pinned], laidTests := true, laidLooks := .later }
def ParserLinesUptoCardSaid : Prop := Claim7.holds Tryz.pinned (.plain (OpenSpec.upto parserLinesSpec)) parserLinesUptoCard

/-- THE SECOND FORM's CARD OF 'girolaw19.ParserNumbers'. -/
def parserNumbersUptoCard : Claim7 := { stood := { row := parserNumbersUptoRow, standIns := [], harness := (true, "cbfc1868cfd2c10fd7d1ba479f39e487cf522d415426580f6ed78da1e18228b3"), looks := true }, kinds := [], alts := [], laidByText := true, laidKinds := [.data, .data, .data, .data, .sentinel, .sentinel, .funcsDeep, .funcs, .widerDeep, .pinned], laidTests := true, laidLooks := .later }
def ParserNumbersUptoCardSaid : Prop := Claim7.holds Tryz.pinned (.plain (OpenSpec.upto parserNumbersSpec)) parserNumbersUptoCard

/-- THE SECOND FORM's CARD OF 'girolaw19.ParserForms'. -/
def parserFormsUptoCard : Claim7 := { stood := { row := parserFormsUptoRow, standIns := [], harness := (true, "cbfc1868cfd2c10fd7d1ba479f39e487cf522d415426580f6ed78da1e18228b3"), looks := true }, kinds := [], alts := [], laidByText := true, laidKinds := [.data, .data, .data, .data, .sentinel, .sentinel, .funcsDeep, .funcs, .widerDeep, .pinned], laidTests := true, laidLooks := .later }
def ParserFormsUptoCardSaid : Prop := Claim7.holds Tryz.pinned (.plain (OpenSpec.upto parserFormsSpec)) parserFormsUptoCard

/-- THE SECOND FORM's CARD OF 'girolaw19.ParserValid'. -/
def parserValidUptoCard : Claim7 := { stood := { row := parserValidUptoRow, standIns := [], harness := (true, "cbfc1868cfd2c10fd7d1ba479f39e487cf522d415426580f6ed78da1e18228b3"), looks := true }, kinds := [], alts := [], laidByText := true, laidKinds := [.data, .data, .data, .data, .sentinel, .sentinel, .funcsDeep, .funcs, .widerDeep, .pinned], laidTests := true, laidLooks := .later }
def ParserValidUptoCardSaid : Prop := Claim7.holds Tryz.pinned (.plain (OpenSpec.upto parserValidSpec)) parserValidUptoCard

/-- THE SECOND FORM's CARD OF 'girolaw19.ParserOptions'. -/
def parserOptionsUptoCard : Claim7 := { stood := { row := parserOptionsUptoRow, standIns := [], harness := (true, "cbfc1868cfd2c10fd7d1ba479f39e487cf522d415426580f6ed78da1e18228b3"), looks := true }, kinds := [], alts := [], laidByText := true, laidKinds := [.data, .data, .data, .data, .sentinel, .sentinel, .funcsDeep, .funcs, .widerDeep, .pinned], laidTests := true, laidLooks := .later }
def ParserOptionsUptoCardSaid : Prop := Claim7.holds Tryz.pinned (.plain (OpenSpec.upto parserOptionsSpec)) parserOptionsUptoCard

/-- THE SECOND FORM's CARD OF 'girolaw19.ParserBlanks'. -/
def parserBlanksUptoCard : Claim7 := { stood := { row := parserBlanksUptoRow, standIns := [], harness := (true, "cbfc1868cfd2c10fd7d1ba479f39e487cf522d415426580f6ed78da1e18228b3"), looks := true }, kinds := [], alts := [], laidByText := true, laidKinds := [.data, .data, .data, .data, .sentinel, .sentinel, .funcsDeep, .funcs, .widerDeep, .pinned], laidTests := true, laidLooks := .later }
def ParserBlanksUptoCardSaid : Prop := Claim7.holds Tryz.pinned (.plain (OpenSpec.upto parserBlanksSpec)) parserBlanksUptoCard

/-- THE SECOND FORM's CARD OF 'girolaw19.ParserTruncation'. -/
def parserTruncationUptoCard : Claim7 := { stood := { row := parserTruncationUptoRow, standIns := [], harness := (true, "cbfc1868cfd2c10fd7d1ba479f39e487cf522d415426580f6ed78da1e18228b3"), looks := true }, kinds := [], alts := [], laidByText := true, laidKinds := [.data, .data, .data, .data, .sentinel, .sentinel, .funcsDeep, .funcs, .widerDeep, .pinned], laidTests := true, laidLooks := .later }
def ParserTruncationUptoCardSaid : Prop := Claim7.holds Tryz.pinned (.plain (OpenSpec.upto parserTruncationSpec)) parserTruncationUptoCard

/-- THE SECOND FORM's CARD OF 'girolaw19.ParserText'. -/
def parserTextUptoCard : Claim7 := { stood := { row := parserTextUptoRow, standIns := [], harness := (true, "cbfc1868cfd2c10fd7d1ba479f39e487cf522d415426580f6ed78da1e18228b3"), looks := true }, kinds := [], alts := [], laidByText := true, laidKinds := [.data, .data, .data, .data, .sentinel, .sentinel, .funcsDeep, .funcs, .widerDeep, .pinned], laidTests := true, laidLooks := .later }
def ParserTextUptoCardSaid : Prop := Claim7.holds Tryz.pinned (.plain (OpenSpec.upto parserTextSpec)) parserTextUptoCard
end Rows
end Go.Proofs.YtampjeghdcpgfaaGreatDoor
