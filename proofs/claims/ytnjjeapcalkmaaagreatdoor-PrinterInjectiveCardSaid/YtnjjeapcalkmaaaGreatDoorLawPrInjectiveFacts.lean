/-
  PrinterInjective: what the card asks of the program, by the kernel.
-/
import Derived.Test.YtnjjeapcalkmaaaGreatDoorCards
import Derived.Test.YtnjjeapcalkmaaaGreatDoorTie
import Derived.JoinedCond
namespace Go.Proofs.YtnjjeapcalkmaaaGreatDoor.lawPrInjective
open Go

theorem fx1 : (Rows.printerInjectiveRow.inPlace == Tryz.pinned.checked.prog.inPlace 8) = true := by kernel_rfl
theorem fx2 : (Rows.printerInjectiveRow.unfollowed == Tryz.pinned.checked.prog.unfollowed 8) = true := by kernel_rfl
theorem fx3 : (Rows.printerInjectiveRow.recurses == Tryz.pinned.checked.prog.recurses 8) = true := by kernel_rfl
theorem fx4 : (Rows.printerInjectiveRow.named == Tryz.pinned.checked.prog.varsNamed 8) = true := by kernel_rfl
theorem facts : joinedFacts Tryz.pinned.checked.prog 8 Tryz.f8 (OpenSpec.ofChange Rows.printerInjectiveSpec).bare Rows.printerInjectiveRow = true := by
  unfold joinedFacts
  rw [fx1, fx2, fx3, fx4]
  kernel_rfl
end Go.Proofs.YtnjjeapcalkmaaaGreatDoor.lawPrInjective
