/- closed facts of the card -/
import Derived.Test.YtjhhjldonekmpaaGreatDoorCards
import Derived.SevenTiedAt
namespace Go.Proofs.YtjhhjldonekmpaaGreatDoor
open Go
theorem cardGoes : false = Rows.fnBKEmptyRow.goesBy Tryz.pinned.checked.prog := by kernel_rfl
end Go.Proofs.YtjhhjldonekmpaaGreatDoor
