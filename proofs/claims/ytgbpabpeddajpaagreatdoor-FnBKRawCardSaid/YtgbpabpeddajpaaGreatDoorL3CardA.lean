/- closed facts of the card -/
import Derived.Test.YtgbpabpeddajpaaGreatDoorCards
import Derived.SevenTiedAt
namespace Go.Proofs.YtgbpabpeddajpaaGreatDoor
set_option linter.unusedVariables false
set_option linter.unusedSimpArgs false
open Go
theorem cardWf : Rows.fnBKRawRow.wfByText (OpenSpec.ofChange Rows.fnBKRawSpec) = true := by kernel_rfl
theorem cardMain : Tryz.pinned.checked.prog.mainIs = some (Rows.fnBKRawCard.stood.harness.1, Rows.fnBKRawCard.stood.harness.2.toList) := by kernel_rfl
theorem cardStand : Tryz.prog.wantsStandIn 4 = false ∧ Tryz.prog.wantsStandIn 21 = false ∧ Tryz.prog.wantsStandIn 22 = false ∧ Tryz.prog.wantsStandIn 23 = false := ⟨by kernel_rfl, by kernel_rfl, by kernel_rfl, by kernel_rfl⟩
end Go.Proofs.YtgbpabpeddajpaaGreatDoor
