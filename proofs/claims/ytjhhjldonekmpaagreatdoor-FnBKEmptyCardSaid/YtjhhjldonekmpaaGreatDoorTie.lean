/-
  DERIVED. GIVEN WITH THE SEED: THE PROGRAM's TIES (one call each: nine closed facts by the kernel) AND EACH ROW's TIE, after the 31st guide's Derived/Test/Toyas{Tie, Card}.lean. No idea stands in it: it is a product of the set-up. Laid BY PROGRAM, IN A SANDBOX (cutbox-door.mjs). By AI agents, Wed Nov 11 2026. No macro, syntax, notation, axiom, sorry.
-/
import Derived.Test.YtjhhjldonekmpaaGreatDoorRows
import Derived.LaidByTextLater
import Derived.SevenTiedAt
import Derived.LaidSub
import Derived.LaidOnce
namespace Go.Proofs.YtjhhjldonekmpaaGreatDoor
open Go
set_option maxRecDepth 100000
theorem seatTie1 : Tryz.prog.laidByTextLater [("given.example/pub-clapboard/spec.ncWidths", Rows.laid_given_example_pub_clapboard_spec_ncWidths), ("given.example/pub-clapboard/spec.ncNames", Rows.laid_given_example_pub_clapboard_spec_ncNames)] [.data, .data] true :=
  Program.laidByTextLater_by_one 106 8 257 (by kernel_rfl) (by kernel_rfl) (by kernel_rfl) (by kernel_rfl) (by kernel_rfl) (by kernel_rfl) (fun _ _ => by kernel_rfl)
theorem noOwnUnsafe : Tryz.pinned.checked.prog.headLifts.contains "ownunsafe" = false := by kernel_rfl
theorem tie : Tryz.prog.laidByTextLater [("given.example/pub-clapboard/spec.ncWidths", Rows.laid_given_example_pub_clapboard_spec_ncWidths), ("given.example/pub-clapboard/spec.ncNames", Rows.laid_given_example_pub_clapboard_spec_ncNames)] [.data, .data] true :=
  Program.laidByTextLater.sub seatTie1 ["given.example/pub-clapboard/spec.ncWidths", "given.example/pub-clapboard/spec.ncNames"] (by kernel_rfl) (by kernel_rfl)
theorem fnBKEmpty_row_tie : Rows.fnBKEmptyRow.laidByTextAt .later Tryz.pinned [.data, .data] true :=
  OpenClaim.laidByTextAt_later rfl rfl tie noOwnUnsafe
theorem fnBKEmptyUpto_row_tie : Rows.fnBKEmptyUptoRow.laidByTextAt .later Tryz.pinned [.data, .data] true :=
  OpenClaim.laidByTextAt_later rfl rfl tie noOwnUnsafe
end Go.Proofs.YtjhhjldonekmpaaGreatDoor
