/- closed facts of the card -/
import Derived.Test.YtjhhjldonekmpaaGreatDoorCards
import Derived.SevenTiedAt
namespace Go.Proofs.YtjhhjldonekmpaaGreatDoor
open Go
theorem cardWf : Rows.fnBKEmptyRow.wfByText (OpenSpec.ofChange Rows.fnBKEmptySpec) = true := by kernel_rfl
theorem cardMain : Tryz.pinned.checked.prog.mainIs = some (Rows.fnBKEmptyCard.stood.harness.1, Rows.fnBKEmptyCard.stood.harness.2.toList) := by kernel_rfl
theorem cardStand : Tryz.prog.wantsStandIn 4 = false ∧ Tryz.prog.wantsStandIn 21 = false ∧ Tryz.prog.wantsStandIn 22 = false := ⟨by kernel_rfl, by kernel_rfl, by kernel_rfl⟩
end Go.Proofs.YtjhhjldonekmpaaGreatDoor
