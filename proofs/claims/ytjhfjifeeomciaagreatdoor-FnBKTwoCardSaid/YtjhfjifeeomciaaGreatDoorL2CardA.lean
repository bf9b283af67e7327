/- closed facts of the card -/
import Derived.Test.YtjhfjifeeomciaaGreatDoorCards
import Derived.SevenTiedAt
namespace Go.Proofs.YtjhfjifeeomciaaGreatDoor
set_option linter.unusedVariables false
set_option linter.unusedSimpArgs false
open Go
theorem cardWf : Rows.fnBKTwoRow.wfByText (OpenSpec.ofChange Rows.fnBKTwoSpec) = true := by kernel_rfl
theorem cardMain : Tryz.pinned.checked.prog.mainIs = some (Rows.fnBKTwoCard.stood.harness.1, Rows.fnBKTwoCard.stood.harness.2.toList) := by kernel_rfl
theorem cardStand : Tryz.prog.wantsStandIn 22 = false ∧ Tryz.prog.wantsStandIn 23 = false ∧ Tryz.prog.wantsStandIn 23 = false := ⟨by kernel_rfl, by kernel_rfl, by kernel_rfl⟩
end Go.Proofs.YtjhfjifeeomciaaGreatDoor
