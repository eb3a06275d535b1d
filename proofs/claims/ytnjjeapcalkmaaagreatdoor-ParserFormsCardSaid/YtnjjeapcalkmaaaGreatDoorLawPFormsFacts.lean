/-
  ParserForms: what the card asks of the program, by the kernel.
-/
import Derived.Test.YtnjjeapcalkmaaaGreatDoorCards
import Derived.Test.YtnjjeapcalkmaaaGreatDoorTie
import Derived.JoinedCond
namespace Go.Proofs.YtnjjeapcalkmaaaGreatDoor.lawPForms
open Go

theorem fx1 : (Rows.parserFormsRow.inPlace == Tryz.pinned.checked.prog.inPlace 3) = true := by kernel_rfl
theorem fx2 : (Rows.parserFormsRow.unfollowed == Tryz.pinned.checked.prog.unfollowed 3) = true := by kernel_rfl
theorem fx3 : (Rows.parserFormsRow.recurses == Tryz.pinned.checked.prog.recurses 3) = true := by kernel_rfl
theorem fx4 : (Rows.parserFormsRow.named == Tryz.pinned.checked.prog.varsNamed 3) = true := by kernel_rfl
theorem facts : joinedFacts Tryz.pinned.checked.prog 3 Tryz.f3 (OpenSpec.ofChange Rows.parserFormsSpec).bare Rows.parserFormsRow = true := by
  unfold joinedFacts
  rw [fx1, fx2, fx3, fx4]
  kernel_rfl
end Go.Proofs.YtnjjeapcalkmaaaGreatDoor.lawPForms
