/- closed facts of the card -/
import Derived.Test.YteimeeepcfcfcaaGreatDoorCards
import Derived.SevenTiedAt
namespace Go.Proofs.YteimeeepcfcfcaaGreatDoor
set_option maxRecDepth 100000
set_option maxHeartbeats 2000000
set_option linter.unusedVariables false
set_option linter.unusedSimpArgs false
open Go
theorem cardGoes : false = Rows.fnBKBackRow.goesBy Tryz.pinned.checked.prog := by kernel_rfl
end Go.Proofs.YteimeeepcfcfcaaGreatDoor
