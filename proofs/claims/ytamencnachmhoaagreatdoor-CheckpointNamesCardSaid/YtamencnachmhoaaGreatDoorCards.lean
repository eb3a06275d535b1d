/-
  DERIVED. GIVEN WITH THE SEED: THE CARDS: each row of YtamencnachmhoaaGreatDoorRows.lean that lists a variable, with what it lists TIED to the program's text (the seventh form; the later family's looks); each row that meets fmt, with fmt's text TOLD by the authors' own Lean function (tested against real Go, not proved from fmt's source: count such statements apart). THE CARD IS WHAT COUNTS. Prove the row's statement (the work); the ties are given (YtamencnachmhoaaGreatDoorTie.lean); close each card by the builder's one call (the guide's Derived/Test/ToyasCard.lean, 'card_holds'). Laid BY PROGRAM, IN A SANDBOX (cutbox-door.mjs). By AI agents, Wed Nov 11 2026. No macro, syntax, notation, axiom, sorry.
-/
import Derived.Test.YtamencnachmhoaaGreatDoorRows
import GoSem.ClaimSeven
namespace Go.Proofs.YtamencnachmhoaaGreatDoor
namespace Rows

/-- THE TIED CARD OF 'girolaw12.CheckpointNames'. -/
def checkpointNamesCard : Claim7 := { stood := { row := checkpointNamesRow, standIns := [], harness := (true, "cfb1d59ddc34fa68b2cc2e064cb157ccd256ff44f21e53c3b129a139acb80a6d"), looks := true }, kinds := [], alts := [], laidByText := true, laidKinds := [.data, .data, .data, .data, .sentinel, .sentinel, .pinned], laidTests := true, laidLooks := .later }
def CheckpointNamesCardSaid : Prop := Claim7.holds Tryz.pinned (.plain (OpenSpec.ofChange checkpointNamesSpec)) checkpointNamesCard

/-- THE TIED CARD OF 'girolaw12.CheckpointDecode'. -/
def checkpointDecodeCard : Claim7 := { stood := { row := checkpointDecodeRow, standIns := [], harness := (true, "cfb1d59ddc34fa68b2cc2e064cb157ccd256ff44f21e53c3b129a139acb80a6d"), looks := true }, kinds := [], alts := [], laidByText := true, laidKinds := [.data, .data, .data, .data, .sentinel, .sentinel, .pinned], laidTests := true, laidLooks := .later }
def CheckpointDecodeCardSaid : Prop := Claim7.holds Tryz.pinned (.plain (OpenSpec.ofChange checkpointDecodeSpec)) checkpointDecodeCard

/-- THE TIED CARD OF 'girolaw12.CheckpointStores'. -/
def checkpointStoresCard : Claim7 := { stood := { row := checkpointStoresRow, standIns := [], harness := (true, "cfb1d59ddc34fa68b2cc2e064cb157ccd256ff44f21e53c3b129a139acb80a6d"), looks := true }, kinds := [], alts := [], laidByText := true, laidKinds := [.data, .data, .data, .data, .sentinel, .sentinel, .pinned], laidTests := true, laidLooks := .later }
def CheckpointStoresCardSaid : Prop := Claim7.holds Tryz.pinned (.plain (OpenSpec.ofChange checkpointStoresSpec)) checkpointStoresCard

/-- THE TIED CARD OF 'girolaw12.CheckpointNil'. -/
def checkpointNilCard : Claim7 := { stood := { row := checkpointNilRow, standIns := [], harness := (true, "cfb1d59ddc34fa68b2cc2e064cb157ccd256ff44f21e53c3b129a139acb80a6d"), looks := true }, kinds := [], alts := [], laidByText := true, laidKinds := [.data, .data, .data, .data, .sentinel, .sentinel, .pinned], laidTests := true, laidLooks := .later }
def CheckpointNilCardSaid : Prop := Claim7.holds Tryz.pinned (.plain (OpenSpec.ofChange checkpointNilSpec)) checkpointNilCard

/-- THE TIED CARD OF 'girolaw12.CheckpointDamage'. -/
def checkpointDamageCard : Claim7 := { stood := { row := checkpointDamageRow, standIns := [], harness := (true, "cfb1d59ddc34fa68b2cc2e064cb157ccd256ff44f21e53c3b129a139acb80a6d"), looks := true }, kinds := [], alts := [], laidByText := true, laidKinds := [.data, .data, .data, .data, .sentinel, .sentinel, .pinned], laidTests := true, laidLooks := .later }
def CheckpointDamageCardSaid : Prop := Claim7.holds Tryz.pinned (.plain (OpenSpec.ofChange checkpointDamageSpec)) checkpointDamageCard

/-- THE TIED CARD OF 'girolaw12.CheckpointCrash'. -/
def checkpointCrashCard : Claim7 := { stood := { row := checkpointCrashRow, standIns := [], harness := (true, "cfb1d59ddc34fa68b2cc2e064cb157ccd256ff44f21e53c3b129a139acb80a6d"), looks := true }, kinds := [], alts := [], laidByText := true, laidKinds := [.data, .data, .data, .data, .sentinel, .sentinel, .pinned], laidTests := true, laidLooks := .later }
def CheckpointCrashCardSaid : Prop := Claim7.holds Tryz.pinned (.plain (OpenSpec.ofChange checkpointCrashSpec)) checkpointCrashCard

/-- THE TIED CARD OF 'girolaw12.CheckpointOperations'. -/
def checkpointOperationsCard : Claim7 := { stood := { row := checkpointOperationsRow, standIns := [], harness := (true, "cfb1d59ddc34fa68b2cc2e064cb157ccd256ff44f21e53c3b129a139acb80a6d"), looks := true }, kinds := [], alts := [], laidByText := true, laidKinds := [.data, .data, .data, .data, .sentinel, .sentinel, .pinned], laidTests := true, laidLooks := .later }
def CheckpointOperationsCardSaid : Prop := Claim7.holds Tryz.pinned (.plain (OpenSpec.ofChange checkpointOperationsSpec)) checkpointOperationsCard

/-- THE SECOND FORM's CARD OF 'girolaw12.CheckpointNames'. -/
def checkpointNamesUptoCard : Claim7 := { stood := { row := checkpointNamesUptoRow, standIns := [], harness := (true, "cfb1d59ddc34fa68b2cc2e064cb157ccd256ff44f21e53c3b129a139acb80a6d"), looks := true }, kinds := [], alts := [], laidByText := true, laidKinds := [.data, .data, .data, .data, .sentinel, .sentinel, .pinned], laidTests := true, laidLooks := .later }
def CheckpointNamesUptoCardSaid : Prop := Claim7.holds Tryz.pinned (.plain (OpenSpec.upto checkpointNamesSpec)) checkpointNamesUptoCard

/-- THE SECOND FORM's CARD OF 'girolaw12.CheckpointDecode'. -/
def checkpointDecodeUptoCard : Claim7 := { stood := { row := checkpointDecodeUptoRow, standIns := [], harness := (true, "cfb1d59ddc34fa68b2cc2e064cb157ccd256ff44f21e53c3b129a139acb80a6d"), looks := true }, kinds := [], alts := [], laidByText := true, laidKinds := [.data, .data, .data, .data, .sentinel, .sentinel, .pinned], laidTests := true, laidLooks := .later }
def CheckpointDecodeUptoCardSaid : Prop := Claim7.holds Tryz.pinned (.plain (OpenSpec.upto checkpointDecodeSpec)) checkpointDecodeUptoCard

/-- THE SECOND FORM's CARD OF 'girolaw12.CheckpointStores'. -/
def checkpointStoresUptoCard : Claim7 := { stood := { row := checkpointStoresUptoRow, standIns := [], harness := (true, "cfb1d59ddc34fa68b2cc2e064cb157ccd256ff44f21e53c3b129a139acb80a6d"), looks := true }, kinds := [], alts := [], laidByText := true, laidKinds := [.data, .data, .data, .data, .sentinel, .sentinel, .pinned], laidTests := true, laidLooks := .later }
def CheckpointStoresUptoCardSaid : Prop := Claim7.holds Tryz.pinned (.plain (OpenSpec.upto checkpointStoresSpec)) checkpointStoresUptoCard

/-- THE SECOND FORM's CARD OF 'girolaw12.CheckpointNil'. -/
def checkpointNilUptoCard : Claim7 := { stood := { row := checkpointNilUptoRow, standIns := [], harness := (true, "cfb1d59ddc34fa68b2cc2e064cb157ccd256ff44f21e53c3b129a139acb80a6d"), looks := true }, kinds := [], alts := [], laidByText := true, laidKinds := [.data, .data, .data, .data, .sentinel, .sentinel, .pinned], laidTests := true, laidLooks := .later }
def CheckpointNilUptoCardSaid : Prop := Claim7.holds Tryz.pinned (.plain (OpenSpec.upto checkpointNilSpec)) checkpointNilUptoCard

/-- THE SECOND FORM's CARD OF 'girolaw12.CheckpointDamage'. -/
def checkpointDamageUptoCard : Claim7 := { stood := { row := checkpointDamageUptoRow, standIns := [], harness := (true, "cfb1d59ddc34fa68b2cc2e064cb157ccd256ff44f21e53c3b129a139acb80a6d"), looks := true }, kinds := [], alts := [], laidByText := true, laidKinds := [.data, .data, .data, .data, .sentinel, .sentinel, .pinned], laidTests := true, laidLooks := .later }
def CheckpointDamageUptoCardSaid : Prop := Claim7.holds Tryz.pinned (.plain (OpenSpec.upto checkpointDamageSpec)) checkpointDamageUptoCard

/-- THE SECOND FORM's CARD OF 'girolaw12.CheckpointCrash'. -/
def checkpointCrashUptoCard : Claim7 := { stood := { row := checkpointCrashUptoRow, standIns := [], harness := (true, "cfb1d59ddc34fa68b2cc2e064cb157ccd256ff44f21e53c3b129a139acb80a6d"), looks := true }, kinds := [], alts := [], laidByText := true, laidKinds := [.data, .data, .data, .data, .sentinel, .sentinel, .pinned], laidTests := true, laidLooks := .later }
def CheckpointCrashUptoCardSaid : Prop := Claim7.holds Tryz.pinned (.plain (OpenSpec.upto checkpointCrashSpec)) checkpointCrashUptoCard

/-- THE SECOND FORM's CARD OF 'girolaw12.CheckpointOperations'. -/
def checkpointOperationsUptoCard : Claim7 := { stood := { row := checkpointOperationsUptoRow, standIns := [], harness := (true, "cfb1d59ddc34fa68b2cc2e064cb157ccd256ff44f21e53c3b129a139acb80a6d"), looks := true }, kinds := [], alts := [], laidByText := true, laidKinds := [.data, .data, .data, .data, .sentinel, .sentinel, .pinned], laidTests := true, laidLooks := .later }
def CheckpointOperationsUptoCardSaid : Prop := Claim7.holds Tryz.pinned (.plain (OpenSpec.upto checkpointOperationsSpec)) checkpointOperationsUptoCard
end Rows
end Go.Proofs.YtamencnachmhoaaGreatDoor
