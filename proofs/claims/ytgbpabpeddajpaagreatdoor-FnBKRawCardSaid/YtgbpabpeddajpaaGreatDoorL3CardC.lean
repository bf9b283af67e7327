/- closed facts of the card -/
import Derived.Test.YtgbpabpeddajpaaGreatDoorCards
import Derived.SevenTiedAt
namespace Go.Proofs.YtgbpabpeddajpaaGreatDoor
set_option linter.unusedVariables false
set_option linter.unusedSimpArgs false
open Go
theorem cardGoes : false = Rows.fnBKRawRow.goesBy Tryz.pinned.checked.prog := by kernel_rfl
end Go.Proofs.YtgbpabpeddajpaaGreatDoor
