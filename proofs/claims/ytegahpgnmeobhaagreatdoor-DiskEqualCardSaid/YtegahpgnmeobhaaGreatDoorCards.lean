/-
  DERIVED. GIVEN WITH THE SEED: THE CARDS: each row of YtegahpgnmeobhaaGreatDoorRows.lean that lists a variable, with what it lists TIED to the program's text (the seventh form; the later family's looks); each row that meets fmt, with fmt's text TOLD by the authors' own Lean function (tested against real Go, not proved from fmt's source: count such statements apart). THE CARD IS WHAT COUNTS. Prove the row's statement (the work); the ties are given (YtegahpgnmeobhaaGreatDoorTie.lean); close each card by the builder's one call (the guide's Derived/Test/ToyasCard.lean, 'card_holds'). Laid BY PROGRAM, IN A SANDBOX (cutbox-door.mjs). By AI agents, Wed Nov 11 2026. No macro, syntax, notation, axiom, sorry.
-/
import Derived.Test.YtegahpgnmeobhaaGreatDoorRows
import GoSem.ClaimSeven
namespace Go.Proofs.YtegahpgnmeobhaaGreatDoor
namespace Rows

/-- THE TIED CARD OF 'girolaw10.DiskBytes'. -/
def diskBytesCard : Claim7 := { stood := { row := diskBytesRow, standIns := [], harness := (true, "c697ab71cf3313b7ff7dc97339040a6c5db488d6ba21383ae0cb5af74bc6ab07"), looks := false }, kinds := [], alts := [], laidByText := true, laidKinds := [.data, .pinned], laidTests := true, laidLooks := .later }
def DiskBytesCardSaid : Prop := Claim7.holds Tryz.pinned (.plain (OpenSpec.ofChange diskBytesSpec)) diskBytesCard

/-- THE TIED CARD OF 'girolaw10.DiskDurable'. -/
def diskDurableCard : Claim7 := { stood := { row := diskDurableRow, standIns := [], harness := (true, "c697ab71cf3313b7ff7dc97339040a6c5db488d6ba21383ae0cb5af74bc6ab07"), looks := false }, kinds := [], alts := [], laidByText := true, laidKinds := [.data, .pinned], laidTests := true, laidLooks := .later }
def DiskDurableCardSaid : Prop := Claim7.holds Tryz.pinned (.plain (OpenSpec.ofChange diskDurableSpec)) diskDurableCard

/-- THE TIED CARD OF 'girolaw10.DiskRename'. -/
def diskRenameCard : Claim7 := { stood := { row := diskRenameRow, standIns := [], harness := (true, "c697ab71cf3313b7ff7dc97339040a6c5db488d6ba21383ae0cb5af74bc6ab07"), looks := false }, kinds := [], alts := [], laidByText := true, laidKinds := [.data, .pinned], laidTests := true, laidLooks := .later }
def DiskRenameCardSaid : Prop := Claim7.holds Tryz.pinned (.plain (OpenSpec.ofChange diskRenameSpec)) diskRenameCard

/-- THE TIED CARD OF 'girolaw10.DiskOperations'. -/
def diskOperationsCard : Claim7 := { stood := { row := diskOperationsRow, standIns := [], harness := (true, "c697ab71cf3313b7ff7dc97339040a6c5db488d6ba21383ae0cb5af74bc6ab07"), looks := false }, kinds := [], alts := [], laidByText := true, laidKinds := [.data, .pinned], laidTests := true, laidLooks := .later }
def DiskOperationsCardSaid : Prop := Claim7.holds Tryz.pinned (.plain (OpenSpec.ofChange diskOperationsSpec)) diskOperationsCard

/-- THE TIED CARD OF 'girolaw10.DiskRestart'. -/
def diskRestartCard : Claim7 := { stood := { row := diskRestartRow, standIns := [], harness := (true, "c697ab71cf3313b7ff7dc97339040a6c5db488d6ba21383ae0cb5af74bc6ab07"), looks := false }, kinds := [], alts := [], laidByText := true, laidKinds := [.data, .pinned], laidTests := true, laidLooks := .later }
def DiskRestartCardSaid : Prop := Claim7.holds Tryz.pinned (.plain (OpenSpec.ofChange diskRestartSpec)) diskRestartCard

/-- THE TIED CARD OF 'girolaw10.DiskBudget'. -/
def diskBudgetCard : Claim7 := { stood := { row := diskBudgetRow, standIns := [], harness := (true, "c697ab71cf3313b7ff7dc97339040a6c5db488d6ba21383ae0cb5af74bc6ab07"), looks := false }, kinds := [], alts := [], laidByText := true, laidKinds := [.data, .pinned], laidTests := true, laidLooks := .later }
def DiskBudgetCardSaid : Prop := Claim7.holds Tryz.pinned (.plain (OpenSpec.ofChange diskBudgetSpec)) diskBudgetCard

/-- THE TIED CARD OF 'girolaw10.DiskEqual'. -/
def diskEqualCard : Claim7 := { stood := { row := diskEqualRow, standIns := [], harness := (true, "c697ab71cf3313b7ff7dc97339040a6c5db488d6ba21383ae0cb5af74bc6ab07"), looks := false }, kinds := [], alts := [], laidByText := true, laidKinds := [.data, .pinned], laidTests := true, laidLooks := .later }
def DiskEqualCardSaid : Prop := Claim7.holds Tryz.pinned (.plain (OpenSpec.ofChange diskEqualSpec)) diskEqualCard

/-- THE TIED CARD OF 'girolaw10.DiskNil'. -/
def diskNilCard : Claim7 := { stood := { row := diskNilRow, standIns := [], harness := (true, "c697ab71cf3313b7ff7dc97339040a6c5db488d6ba21383ae0cb5af74bc6ab07"), looks := false }, kinds := [], alts := [], laidByText := true, laidKinds := [.data, .pinned], laidTests := true, laidLooks := .later }
def DiskNilCardSaid : Prop := Claim7.holds Tryz.pinned (.plain (OpenSpec.ofChange diskNilSpec)) diskNilCard

/-- THE SECOND FORM's CARD OF 'girolaw10.DiskBytes'. -/
def diskBytesUptoCard : Claim7 := { stood := { row := diskBytesUptoRow, standIns := [], harness := (true, "c697ab71cf3313b7ff7dc97339040a6c5db488d6ba21383ae0cb5af74bc6ab07"), looks := false }, kinds := [], alts := [], laidByText := true, laidKinds := [.data, .pinned], laidTests := true, laidLooks := .later }
def DiskBytesUptoCardSaid : Prop := Claim7.holds Tryz.pinned (.plain (OpenSpec.upto diskBytesSpec)) diskBytesUptoCard

/-- THE SECOND FORM's CARD OF 'girolaw10.DiskDurable'. -/
def diskDurableUptoCard : Claim7 := { stood := { row := diskDurableUptoRow, standIns := [], harness := (true, "c697ab71cf3313b7ff7dc97339040a6c5db488d6ba21383ae0cb5af74bc6ab07"), looks := false }, kinds := [], alts := [], laidByText := true, laidKinds := [.data, .pinned], laidTests := true, laidLooks := .later }
def DiskDurableUptoCardSaid : Prop := Claim7.holds Tryz.pinned (.plain (OpenSpec.upto diskDurableSpec)) diskDurableUptoCard

/-- THE SECOND FORM's CARD OF 'girolaw10.DiskRename'. -/
def diskRenameUptoCard : Claim7 := { stood := { row := diskRenameUptoRow, standIns := [], harness := (true, "c697ab71cf3313b7ff7dc97339040a6c5db488d6ba21383ae0cb5af74bc6ab07"), looks := false }, kinds := [], alts := [], laidByText := true, laidKinds := [.data, .pinned], laidTests := true, laidLooks := .later }
def DiskRenameUptoCardSaid : Prop := Claim7.holds Tryz.pinned (.plain (OpenSpec.upto diskRenameSpec)) diskRenameUptoCard

/-- THE SECOND FORM's CARD OF 'girolaw10.DiskOperations'. -/
def diskOperationsUptoCard : Claim7 := { stood := { row := diskOperationsUptoRow, standIns := [], harness := (true, "c697ab71cf3313b7ff7dc97339040a6c5db488d6ba21383ae0cb5af74bc6ab07"), looks := false }, kinds := [], alts := [], laidByText := true, laidKinds := [.data, .pinned], laidTests := true, laidLooks := .later }
def DiskOperationsUptoCardSaid : Prop := Claim7.holds Tryz.pinned (.plain (OpenSpec.upto diskOperationsSpec)) diskOperationsUptoCard

/-- THE SECOND FORM's CARD OF 'girolaw10.DiskRestart'. -/
def diskRestartUptoCard : Claim7 := { stood := { row := diskRestartUptoRow, standIns := [], harness := (true, "c697ab71cf3313b7ff7dc97339040a6c5db488d6ba21383ae0cb5af74bc6ab07"), looks := false }, kinds := [], alts := [], laidByText := true, laidKinds := [.data, .pinned], laidTests := true, laidLooks := .later }
def DiskRestartUptoCardSaid : Prop := Claim7.holds Tryz.pinned (.plain (OpenSpec.upto diskRestartSpec)) diskRestartUptoCard

/-- THE SECOND FORM's CARD OF 'girolaw10.DiskBudget'. -/
def diskBudgetUptoCard : Claim7 := { stood := { row := diskBudgetUptoRow, standIns := [], harness := (true, "c697ab71cf3313b7ff7dc97339040a6c5db488d6ba21383ae0cb5af74bc6ab07"), looks := false }, kinds := [], alts := [], laidByText := true, laidKinds := [.data, .pinned], laidTests := true, laidLooks := .later }
def DiskBudgetUptoCardSaid : Prop := Claim7.holds Tryz.pinned (.plain (OpenSpec.upto diskBudgetSpec)) diskBudgetUptoCard

/-- THE SECOND FORM's CARD OF 'girolaw10.DiskEqual'. -/
def diskEqualUptoCard : Claim7 := { stood := { row := diskEqualUptoRow, standIns := [], harness := (true, "c697ab71cf3313b7ff7dc97339040a6c5db488d6ba21383ae0cb5af74bc6ab07"), looks := false }, kinds := [], alts := [], laidByText := true, laidKinds := [.data, .pinned], laidTests := true, laidLooks := .later }
def DiskEqualUptoCardSaid : Prop := Claim7.holds Tryz.pinned (.plain (OpenSpec.upto diskEqualSpec)) diskEqualUptoCard

/-- THE SECOND FORM's CARD OF 'girolaw10.DiskNil'. -/
def diskNilUptoCard : Claim7 := { stood := { row := diskNilUptoRow, standIns := [], harness := (true, "c697ab71cf3313b7ff7dc97339040a6c5db488d6ba21383ae0cb5af74bc6ab07"), looks := false }, kinds := [], alts := [], laidByText := true, laidKinds := [.data, .pinned], laidTests := true, laidLooks := .later }
def DiskNilUptoCardSaid : Prop := Claim7.holds Tryz.pinned (.plain (OpenSpec.upto diskNilSpec)) diskNilUptoCard
end Rows
end Go.Proofs.YtegahpgnmeobhaaGreatDoor
