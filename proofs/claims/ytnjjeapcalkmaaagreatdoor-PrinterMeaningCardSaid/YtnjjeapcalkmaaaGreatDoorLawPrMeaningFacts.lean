/-
  PrinterMeaning: what the card asks of the program, by the kernel.
-/
import Derived.Test.YtnjjeapcalkmaaaGreatDoorCards
import Derived.Test.YtnjjeapcalkmaaaGreatDoorTie
import Derived.JoinedCond
namespace Go.Proofs.YtnjjeapcalkmaaaGreatDoor.lawPrMeaning
open Go

theorem fx1 : (Rows.printerMeaningRow.inPlace == Tryz.pinned.checked.prog.inPlace 9) = true := by kernel_rfl
theorem fx2 : (Rows.printerMeaningRow.unfollowed == Tryz.pinned.checked.prog.unfollowed 9) = true := by kernel_rfl
theorem fx3 : (Rows.printerMeaningRow.recurses == Tryz.pinned.checked.prog.recurses 9) = true := by kernel_rfl
theorem fx4 : (Rows.printerMeaningRow.named == Tryz.pinned.checked.prog.varsNamed 9) = true := by kernel_rfl
theorem facts : joinedFacts Tryz.pinned.checked.prog 9 Tryz.f9 (OpenSpec.ofChange Rows.printerMeaningSpec).bare Rows.printerMeaningRow = true := by
  unfold joinedFacts
  rw [fx1, fx2, fx3, fx4]
  kernel_rfl
end Go.Proofs.YtnjjeapcalkmaaaGreatDoor.lawPrMeaning
