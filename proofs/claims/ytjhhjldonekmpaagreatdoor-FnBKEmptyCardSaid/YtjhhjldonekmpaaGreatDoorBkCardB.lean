/- closed facts of the card -/
import Derived.Test.YtjhhjldonekmpaaGreatDoorCards
import Derived.SevenTiedAt
namespace Go.Proofs.YtjhhjldonekmpaaGreatDoor
open Go
theorem cardLooks : true = Tryz.pinned.checked.prog.looks [] := by kernel_rfl
end Go.Proofs.YtjhhjldonekmpaaGreatDoor
