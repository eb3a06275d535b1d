/-
  PrinterRoundTrip: what the card asks of the program, by the kernel.
-/
import Derived.Test.YtnjjeapcalkmaaaGreatDoorCards
import Derived.Test.YtnjjeapcalkmaaaGreatDoorTie
import Derived.JoinedCond
namespace Go.Proofs.YtnjjeapcalkmaaaGreatDoor.lawPrRoundTrip
open Go

theorem fx1 : (Rows.printerRoundTripRow.inPlace == Tryz.pinned.checked.prog.inPlace 7) = true := by kernel_rfl
theorem fx2 : (Rows.printerRoundTripRow.unfollowed == Tryz.pinned.checked.prog.unfollowed 7) = true := by kernel_rfl
theorem fx3 : (Rows.printerRoundTripRow.recurses == Tryz.pinned.checked.prog.recurses 7) = true := by kernel_rfl
theorem fx4 : (Rows.printerRoundTripRow.named == Tryz.pinned.checked.prog.varsNamed 7) = true := by kernel_rfl
theorem facts : joinedFacts Tryz.pinned.checked.prog 7 Tryz.f7 (OpenSpec.ofChange Rows.printerRoundTripSpec).bare Rows.printerRoundTripRow = true := by
  unfold joinedFacts
  rw [fx1, fx2, fx3, fx4]
  kernel_rfl
end Go.Proofs.YtnjjeapcalkmaaaGreatDoor.lawPrRoundTrip
