/- closed facts of the card -/
import Derived.Test.YtfbohkbpgfnceaaGreatDoorCards
import Derived.SevenTiedAt
namespace Go.Proofs.YtfbohkbpgfnceaaGreatDoor
set_option linter.unusedVariables false
set_option linter.unusedSimpArgs false
open Go
theorem cardWf : Rows.fnBKOthersRow.wfByText (OpenSpec.ofChange Rows.fnBKOthersSpec) = true := by kernel_rfl
theorem cardMain : Tryz.pinned.checked.prog.mainIs = some (Rows.fnBKOthersCard.stood.harness.1, Rows.fnBKOthersCard.stood.harness.2.toList) := by kernel_rfl
theorem cardStand : Tryz.prog.wantsStandIn 22 = false ∧ Tryz.prog.wantsStandIn 23 = false ∧ Tryz.prog.wantsStandIn 5 = false ∧ Tryz.prog.wantsStandIn 5 = false := ⟨by kernel_rfl, by kernel_rfl, by kernel_rfl, by kernel_rfl⟩
end Go.Proofs.YtfbohkbpgfnceaaGreatDoor
