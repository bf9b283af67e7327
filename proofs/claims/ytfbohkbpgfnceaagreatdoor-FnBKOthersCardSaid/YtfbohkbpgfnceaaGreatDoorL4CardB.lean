/- closed facts of the card -/
import Derived.Test.YtfbohkbpgfnceaaGreatDoorCards
import Derived.SevenTiedAt
namespace Go.Proofs.YtfbohkbpgfnceaaGreatDoor
set_option linter.unusedVariables false
set_option linter.unusedSimpArgs false
open Go
theorem cardLooks : true = Tryz.pinned.checked.prog.looks [] := by kernel_rfl
end Go.Proofs.YtfbohkbpgfnceaaGreatDoor
