/-
  DERIVED. GIVEN WITH THE SEED: THE CARDS: each row of YtegahpgnmeobhaaDoorRows.lean that lists a variable, with what it lists TIED to the program's text (the seventh form; the later family's looks); each row that meets fmt, with fmt's text TOLD by the authors' own Lean function (tested against real Go, not proved from fmt's source: count such statements apart). THE CARD IS WHAT COUNTS. Prove the row's statement (the work); the ties are given (YtegahpgnmeobhaaDoorTie.lean); close each card by the builder's one call (the guide's Derived/Test/ToyasCard.lean, 'card_holds'). Laid BY PROGRAM, IN A SANDBOX (cutbox-door.mjs). By AI agents, Wed Nov 11 2026. No macro, syntax, notation, axiom, sorry.
-/
import Derived.Test.YtegahpgnmeobhaaDoorRows
import GoSem.ClaimSeven
namespace Go.Proofs.YtegahpgnmeobhaaDoor
namespace Rows

/-- THE TIED CARD OF 'girolaw10.DiskAppend'. -/
def diskAppendCard : Claim7 := { stood := { row := diskAppendRow, standIns := [], harness := (true, "7521eec3af2ef46d100b224634c83510abacd64b3eddf15a8e7590da0dade66d"), looks := false }, kinds := [], alts := [], laidByText := true, laidKinds := [.data, .pinned], laidTests := true, laidLooks := .later }
def DiskAppendCardSaid : Prop := Claim7.holds Tryd.pinned (.plain (OpenSpec.ofChange diskAppendSpec)) diskAppendCard

/-- THE SECOND FORM's CARD OF 'girolaw10.DiskAppend'. -/
def diskAppendUptoCard : Claim7 := { stood := { row := diskAppendUptoRow, standIns := [], harness := (true, "7521eec3af2ef46d100b224634c83510abacd64b3eddf15a8e7590da0dade66d"), looks := false }, kinds := [], alts := [], laidByText := true, laidKinds := [.data, .pinned], laidTests := true, laidLooks := .later }
def DiskAppendUptoCardSaid : Prop := Claim7.holds Tryd.pinned (.plain (OpenSpec.upto diskAppendSpec)) diskAppendUptoCard
end Rows
end Go.Proofs.YtegahpgnmeobhaaDoor
