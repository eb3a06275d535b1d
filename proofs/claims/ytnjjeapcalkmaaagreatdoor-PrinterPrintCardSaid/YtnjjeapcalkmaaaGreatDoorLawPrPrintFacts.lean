/-
  PrinterPrint: what the card asks of the program, by the kernel.
-/
import Derived.Test.YtnjjeapcalkmaaaGreatDoorCards
import Derived.Test.YtnjjeapcalkmaaaGreatDoorTie
import Derived.JoinedCond
namespace Go.Proofs.YtnjjeapcalkmaaaGreatDoor.lawPrPrint
open Go

theorem fx1 : (Rows.printerPrintRow.inPlace == Tryz.pinned.checked.prog.inPlace 5) = true := by kernel_rfl
theorem fx2 : (Rows.printerPrintRow.unfollowed == Tryz.pinned.checked.prog.unfollowed 5) = true := by kernel_rfl
theorem fx3 : (Rows.printerPrintRow.recurses == Tryz.pinned.checked.prog.recurses 5) = true := by kernel_rfl
theorem fx4 : (Rows.printerPrintRow.named == Tryz.pinned.checked.prog.varsNamed 5) = true := by kernel_rfl
theorem facts : joinedFacts Tryz.pinned.checked.prog 5 Tryz.f5 (OpenSpec.ofChange Rows.printerPrintSpec).bare Rows.printerPrintRow = true := by
  unfold joinedFacts
  rw [fx1, fx2, fx3, fx4]
  kernel_rfl
end Go.Proofs.YtnjjeapcalkmaaaGreatDoor.lawPrPrint
