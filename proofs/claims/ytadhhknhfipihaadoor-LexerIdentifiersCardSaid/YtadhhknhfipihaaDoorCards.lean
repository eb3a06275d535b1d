/-
  DERIVED. GIVEN WITH THE SEED: THE CARDS: each row of YtadhhknhfipihaaDoorRows.lean that lists a variable, with what it lists TIED to the program's text (the seventh form; the later family's looks); each row that meets fmt, with fmt's text TOLD by the authors' own Lean function (tested against real Go, not proved from fmt's source: count such statements apart). THE CARD IS WHAT COUNTS. Prove the row's statement (the work); the ties are given (YtadhhknhfipihaaDoorTie.lean); close each card by the builder's one call (the guide's Derived/Test/ToyasCard.lean, 'card_holds'). Laid BY PROGRAM, IN A SANDBOX (cutbox-door.mjs). By AI agents, Wed Nov 11 2026. No macro, syntax, notation, axiom, sorry.
-/
import Derived.Test.YtadhhknhfipihaaDoorRows
import GoSem.ClaimSeven
namespace Go.Proofs.YtadhhknhfipihaaDoor
namespace Rows

/-- THE TIED CARD OF 'girolaw17.LexerLines'. -/
def lexerLinesCard : Claim7 := { stood := { row := lexerLinesRow, standIns := [], harness := (true, "464f7dd05b83b8a534fc41473abce1a1688cb9a04ab6924761144ce1623ae2e4"), looks := true }, kinds := [], alts := [], laidByText := true, laidKinds := [.data, .funcs, .pinned], laidTests := true, laidLooks := .later }
def LexerLinesCardSaid : Prop := Claim7.holds Tryd.pinned (.plain (OpenSpec.ofChange lexerLinesSpec)) lexerLinesCard

/-- THE TIED CARD OF 'girolaw17.LexerIdentifiers'. -/
def lexerIdentifiersCard : Claim7 := { stood := { row := lexerIdentifiersRow, standIns := [], harness := (true, "464f7dd05b83b8a534fc41473abce1a1688cb9a04ab6924761144ce1623ae2e4"), looks := true }, kinds := [], alts := [], laidByText := true, laidKinds := [.data, .data, .data, .data, .sentinel, .sentinel, .funcsDeep, .funcs, .pinned], laidTests := true, laidLooks := .later }
def LexerIdentifiersCardSaid : Prop := Claim7.holds Tryd.pinned (.plain (OpenSpec.ofChange lexerIdentifiersSpec)) lexerIdentifiersCard

/-- THE SECOND FORM's CARD OF 'girolaw17.LexerLines'. -/
def lexerLinesUptoCard : Claim7 := { stood := { row := lexerLinesUptoRow, standIns := [], harness := (true, "464f7dd05b83b8a534fc41473abce1a1688cb9a04ab6924761144ce1623ae2e4"), looks := true }, kinds := [], alts := [], laidByText := true, laidKinds := [.data, .funcs, .pinned], laidTests := true, laidLooks := .later }
def LexerLinesUptoCardSaid : Prop := Claim7.holds Tryd.pinned (.plain (OpenSpec.upto lexerLinesSpec)) lexerLinesUptoCard

/-- THE SECOND FORM's CARD OF 'girolaw17.LexerIdentifiers'. -/
def lexerIdentifiersUptoCard : Claim7 := { stood := { row := lexerIdentifiersUptoRow, standIns := [], harness := (true, "464f7dd05b83b8a534fc41473abce1a1688cb9a04ab6924761144ce1623ae2e4"), looks := true }, kinds := [], alts := [], laidByText := true, laidKinds := [.data, .data, .data, .data, .sentinel, .sentinel, .funcsDeep, .funcs, .pinned], laidTests := true, laidLooks := .later }
def LexerIdentifiersUptoCardSaid : Prop := Claim7.holds Tryd.pinned (.plain (OpenSpec.upto lexerIdentifiersSpec)) lexerIdentifiersUptoCard
end Rows
end Go.Proofs.YtadhhknhfipihaaDoor
