/- closed facts of the card -/
import Derived.Test.YteimeeepcfcfcaaGreatDoorCards
import Derived.SevenTiedAt
namespace Go.Proofs.YteimeeepcfcfcaaGreatDoor
set_option maxRecDepth 100000
set_option maxHeartbeats 2000000
set_option linter.unusedVariables false
set_option linter.unusedSimpArgs false
open Go
theorem cardWf : Rows.fnBKBackRow.wfByText (OpenSpec.ofChange Rows.fnBKBackSpec) = true := by kernel_rfl
theorem cardMain : Tryz.pinned.checked.prog.mainIs = some (Rows.fnBKBackCard.stood.harness.1, Rows.fnBKBackCard.stood.harness.2.toList) := by kernel_rfl
theorem cardStand : Tryz.prog.wantsStandIn 4 = false ∧ Tryz.prog.wantsStandIn 21 = false ∧ Tryz.prog.wantsStandIn 22 = false ∧ Tryz.prog.wantsStandIn 23 = false ∧ Tryz.prog.wantsStandIn 24 = false ∧ Tryz.prog.wantsStandIn 22 = false := ⟨by kernel_rfl, by kernel_rfl, by kernel_rfl, by kernel_rfl, by kernel_rfl, by kernel_rfl⟩
end Go.Proofs.YteimeeepcfcfcaaGreatDoor
