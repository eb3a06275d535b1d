/-
  DERIVED. GIVEN WITH THE SEED: THE CARDS: each row of YtcbnbhlgikjbeaaGreatDoorRows.lean that lists a variable, with what it lists TIED to the program's text (the seventh form; the later family's looks); each row that meets fmt, with fmt's text TOLD by the authors' own Lean function (tested against real Go, not proved from fmt's source: count such statements apart). THE CARD IS WHAT COUNTS. Prove the row's statement (the work); the ties are given (YtcbnbhlgikjbeaaGreatDoorTie.lean); close each card by the builder's one call (the guide's Derived/Test/ToyasCard.lean, 'card_holds'). Laid BY PROGRAM, IN A SANDBOX (cutbox-door.mjs). By AI agents, Wed Nov 11 2026. No macro, syntax, notation, axiom, sorry.
-/
import Derived.Test.YtcbnbhlgikjbeaaGreatDoorRows
import GoSem.ClaimSeven
namespace Go.Proofs.YtcbnbhlgikjbeaaGreatDoor
namespace Rows

/-- THE TIED CARD OF 'girolaw11.WalForeignFiles'. -/
def walForeignFilesCard : Claim7 := { stood := { row := walForeignFilesRow, standIns := [], harness := (true, "ff27f004e69c91392afb6761a395e597fb549a117dc1bee1d83dd01ead601ec5"), looks := false }, kinds := [], alts := [], laidByText := true, laidKinds := [.data, .data, .data, .data, .pinned], laidTests := true, laidLooks := .later }
def WalForeignFilesCardSaid : Prop := Claim7.holds Tryz.pinned (.plain (OpenSpec.ofChange walForeignFilesSpec)) walForeignFilesCard

/-- THE TIED CARD OF 'girolaw11.WalReopen'. -/
def walReopenCard : Claim7 := { stood := { row := walReopenRow, standIns := [], harness := (true, "ff27f004e69c91392afb6761a395e597fb549a117dc1bee1d83dd01ead601ec5"), looks := false }, kinds := [], alts := [], laidByText := true, laidKinds := [.data, .data, .data, .data, .pinned], laidTests := true, laidLooks := .later }
def WalReopenCardSaid : Prop := Claim7.holds Tryz.pinned (.plain (OpenSpec.ofChange walReopenSpec)) walReopenCard

/-- THE TIED CARD OF 'girolaw11.WalErrors'. -/
def walErrorsCard : Claim7 := { stood := { row := walErrorsRow, standIns := [], harness := (true, "ff27f004e69c91392afb6761a395e597fb549a117dc1bee1d83dd01ead601ec5"), looks := false }, kinds := [], alts := [], laidByText := true, laidKinds := [.data, .data, .data, .data, .pinned], laidTests := true, laidLooks := .later }
def WalErrorsCardSaid : Prop := Claim7.holds Tryz.pinned (.plain (OpenSpec.ofChange walErrorsSpec)) walErrorsCard

/-- THE TIED CARD OF 'girolaw11.WalDurability'. -/
def walDurabilityCard : Claim7 := { stood := { row := walDurabilityRow, standIns := [], harness := (true, "ff27f004e69c91392afb6761a395e597fb549a117dc1bee1d83dd01ead601ec5"), looks := false }, kinds := [], alts := [], laidByText := true, laidKinds := [.data, .data, .data, .data, .pinned], laidTests := true, laidLooks := .later }
def WalDurabilityCardSaid : Prop := Claim7.holds Tryz.pinned (.plain (OpenSpec.ofChange walDurabilitySpec)) walDurabilityCard

/-- THE SECOND FORM's CARD OF 'girolaw11.WalForeignFiles'. -/
def walForeignFilesUptoCard : Claim7 := { stood := { row := walForeignFilesUptoRow, standIns := [], harness := (true, "ff27f004e69c91392afb6761a395e597fb549a117dc1bee1d83dd01ead601ec5"), looks := false }, kinds := [], alts := [], laidByText := true, laidKinds := [.data, .data, .data, .data, .pinned], laidTests := true, laidLooks := .later }
def WalForeignFilesUptoCardSaid : Prop := Claim7.holds Tryz.pinned (.plain (OpenSpec.upto walForeignFilesSpec)) walForeignFilesUptoCard

/-- THE SECOND FORM's CARD OF 'girolaw11.WalReopen'. -/
def walReopenUptoCard : Claim7 := { stood := { row := walReopenUptoRow, standIns := [], harness := (true, "ff27f004e69c91392afb6761a395e597fb549a117dc1bee1d83dd01ead601ec5"), looks := false }, kinds := [], alts := [], laidByText := true, laidKinds := [.data, .data, .data, .data, .pinned], laidTests := true, laidLooks := .later }
def WalReopenUptoCardSaid : Prop := Claim7.holds Tryz.pinned (.plain (OpenSpec.upto walReopenSpec)) walReopenUptoCard

/-- THE SECOND FORM's CARD OF 'girolaw11.WalErrors'. -/
def walErrorsUptoCard : Claim7 := { stood := { row := walErrorsUptoRow, standIns := [], harness := (true, "ff27f004e69c91392afb6761a395e597fb549a117dc1bee1d83dd01ead601ec5"), looks := false }, kinds := [], alts := [], laidByText := true, laidKinds := [.data, .data, .data, .data, .pinned], laidTests := true, laidLooks := .later }
def WalErrorsUptoCardSaid : Prop := Claim7.holds Tryz.pinned (.plain (OpenSpec.upto walErrorsSpec)) walErrorsUptoCard

/-- THE SECOND FORM's CARD OF 'girolaw11.WalDurability'. -/
def walDurabilityUptoCard : Claim7 := { stood := { row := walDurabilityUptoRow, standIns := [], harness := (true, "ff27f004e69c91392afb6761a395e597fb549a117dc1bee1d83dd01ead601ec5"), looks := false }, kinds := [], alts := [], laidByText := true, laidKinds := [.data, .data, .data, .data, .pinned], laidTests := true, laidLooks := .later }
def WalDurabilityUptoCardSaid : Prop := Claim7.holds Tryz.pinned (.plain (OpenSpec.upto walDurabilitySpec)) walDurabilityUptoCard
end Rows
end Go.Proofs.YtcbnbhlgikjbeaaGreatDoor
