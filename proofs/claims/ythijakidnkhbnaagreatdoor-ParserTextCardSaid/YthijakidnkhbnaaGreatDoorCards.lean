/-
  DERIVED. GIVEN WITH THE SEED: THE CARDS: each row of YthijakidnkhbnaaGreatDoorRows.lean that lists a variable, with what it lists TIED to the program's text (the seventh form; the later family's looks); each row that meets fmt, with fmt's text TOLD by the authors' own Lean function (tested against real Go, not proved from fmt's source: count such statements apart). THE CARD IS WHAT COUNTS. Prove the row's statement (the work); the ties are given (YthijakidnkhbnaaGreatDoorTie.lean); close each card by the builder's one call (the guide's Derived/Test/ToyasCard.lean, 'card_holds'). Laid BY PROGRAM, IN A SANDBOX (cutbox-door.mjs). By AI agents, Wed Nov 11 2026. No macro, syntax, notation, axiom, sorry.
-/
import Derived.Test.YthijakidnkhbnaaGreatDoorRows
import GoSem.ClaimSeven
namespace Go.Proofs.YthijakidnkhbnaaGreatDoor
namespace Rows

/-- THE TIED CARD OF 'girolaw19.ParserLines'. -/
def parserLinesCard : Claim7 := { stood := { row := parserLinesRow, standIns := [], harness := (true, "d197448e72fd442c48573f8d8bc55dee05ff34460a9e91b559ac004385da4520"), looks := true }, kinds := [], alts := [], laidByText := true, laidKinds := [.data, .data, .data, .data, .sentinel, .sentinel, .funcsDeep, .funcs, .widerDeep, .pinned], laidTests := true, laidLooks := .later }
def ParserLinesCardSaid : Prop := Claim7.holds Tryz.pinned (.plain (OpenSpec.ofChange parserLinesSpec)) parserLinesCard

/-- THE TIED CARD OF 'girolaw19.ParserForms'. -/
def parserFormsCard : Claim7 := { stood := { row := parserFormsRow, standIns := [], harness := (true, "d197448e72fd442c48573f8d8bc55dee05ff34460a9e91b559ac004385da4520"), looks := true }, kinds := [], alts := [], laidByText := true, laidKinds := [.data, .data, .data, .data, .sentinel, .sentinel, .funcsDeep, .funcs, .widerDeep, .pinned], laidTests := true, laidLooks := .later }
def ParserFormsCardSaid : Prop := Claim7.holds Tryz.pinned (.plain (OpenSpec.ofChange parserFormsSpec)) parserFormsCard

/-- THE TIED CARD OF 'girolaw19.ParserBlanks'. -/
def parserBlanksCard : Claim7 := { stood := { row := parserBlanksRow, standIns := [], harness := (true, "d197448e72fd442c48573f8d8bc55dee05ff34460a9e91b559ac004385da4520"), looks := true }, kinds := [], alts := [], laidByText := true, laidKinds := [.data, .data, .data, .data, .sentinel, .sentinel, .funcsDeep, .funcs, .widerDeep, .pinned], laidTests := true, laidLooks := .later }
def ParserBlanksCardSaid : Prop := Claim7.holds Tryz.pinned (.plain (OpenSpec.ofChange parserBlanksSpec)) parserBlanksCard

/-- THE TIED CARD OF 'girolaw19.ParserTruncation'. -/
def parserTruncationCard : Claim7 := { stood := { row := parserTruncationRow, standIns := [], harness := (true, "d197448e72fd442c48573f8d8bc55dee05ff34460a9e91b559ac004385da4520"), looks := true }, kinds := [], alts := [], laidByText := true, laidKinds := [.data, .data, .data, .data, .sentinel, .sentinel, .funcsDeep, .funcs, .widerDeep, .pinned], laidTests := true, laidLooks := .later }
def ParserTruncationCardSaid : Prop := Claim7.holds Tryz.pinned (.plain (OpenSpec.ofChange parserTruncationSpec)) parserTruncationCard

/-- THE TIED CARD OF 'girolaw19.ParserText'. -/
def parserTextCard : Claim7 := { stood := { row := parserTextRow, standIns := [], harness := (true, "d197448e72fd442c48573f8d8bc55dee05ff34460a9e91b559ac004385da4520"), looks := true }, kinds := [], alts := [], laidByText := true, laidKinds := [.data, .data, .data, .data, .sentinel, .sentinel, .funcsDeep, .funcs, .widerDeep, .pinned], laidTests := true, laidLooks := .later }
def ParserTextCardSaid : Prop := Claim7.holds Tryz.pinned (.plain (OpenSpec.ofChange parserTextSpec)) parserTextCard

/-- THE SECOND FORM's CARD OF 'girolaw19.ParserLines'. -/
def parserLinesUptoCard : Claim7 := { stood := { row := parserLinesUptoRow, standIns := [], harness := (true, "d197448e72fd442c48573f8d8bc55dee05ff34460a9e91b559ac004385da4520"), looks := true }, kinds := [], alts := [], laidByText := true, laidKinds := [.data, .data, .data, .data, .sentinel, .sentinel, .funcsDeep, .funcs, .widerDeep, .pinned], laidTests := true, laidLooks := .later }
def ParserLinesUptoCardSaid : Prop := Claim7.holds Tryz.pinned (.plain (OpenSpec.upto parserLinesSpec)) parserLinesUptoCard

/-- THE SECOND FORM's CARD OF 'girolaw19.ParserForms'. -/
def parserFormsUptoCard : Claim7 := { stood := { row := parserFormsUptoRow, standIns := [], harness := (true, "d197448e72fd442c48573f8d8bc55dee05ff34460a9e91b559ac004385da4520"), looks := true }, kinds := [], alts := [], laidByText := true, laidKinds := [.data, .data, .data, .data, .sentinel, .sentinel, .funcsDeep, .funcs, .widerDeep, .pinned], laidTests := true, laidLooks := .later }
def ParserFormsUptoCardSaid : Prop := Claim7.holds Tryz.pinned (.plain (OpenSpec.upto parserFormsSpec)) parserFormsUptoCard

/-- THE SECOND FORM's CARD OF 'girolaw19.ParserBlanks'. -/
def parserBlanksUptoCard : Claim7 := { stood := { row := parserBlanksUptoRow, standIns := [], harness := (true, "d197448e72fd442c48573f8d8bc55dee05ff34460a9e91b559ac004385da4520"), looks := true }, kinds := [], alts := [], laidByText := true, laidKinds := [.data, .data, .data, .data, .sentinel, .sentinel, .funcsDeep, .funcs, .widerDeep, .pinned], laidTests := true, laidLooks := .later }
def ParserBlanksUptoCardSaid : Prop := Claim7.holds Tryz.pinned (.plain (OpenSpec.upto parserBlanksSpec)) parserBlanksUptoCard

/-- THE SECOND FORM's CARD OF 'girolaw19.ParserTruncation'. -/
def parserTruncationUptoCard : Claim7 := { stood := { row := parserTruncationUptoRow, standIns := [], harness := (true, "d197448e72fd442c48573f8d8bc55dee05ff34460a9e91b559ac004385da4520"), looks := true }, kinds := [], alts := [], laidByText := true, laidKinds := [.data, .data, .data, .data, .sentinel, .sentinel, .funcsDeep, .funcs, .widerDeep, .pinned], laidTests := true, laidLooks := .later }
def ParserTruncationUptoCardSaid : Prop := Claim7.holds Tryz.pinned (.plain (OpenSpec.upto parserTruncationSpec)) parserTruncationUptoCard

/-- THE SECOND FORM's CARD OF 'girolaw19.ParserText'. -/
def parserTextUptoCard : Claim7 := { stood := { row := parserTextUptoRow, standIns := [], harness := (true, "d197448e72fd442c48573f8d8bc55dee05ff34460a9e91b559ac004385da4520"), looks := true }, kinds := [], alts := [], laidByText := true, laidKinds := [.data, .data, .data, .data, .sentinel, .sentinel, .funcsDeep, .funcs, .widerDeep, .pinned], laidTests := true, laidLooks := .later }
def ParserTextUptoCardSaid : Prop := Claim7.holds Tryz.pinned (.plain (OpenSpec.upto parserTextSpec)) parserTextUptoCard
end Rows
end Go.Proofs.YthijakidnkhbnaaGreatDoor
