/-
  DERIVED. GIVEN WITH THE SEED: THE CARDS: each row of YteimeeepcfcfcaaGreatDoorRows.lean that lists a variable, with what it lists TIED to the program's text (the seventh form; the later family's looks); each row that meets fmt, with fmt's text TOLD by the authors' own Lean function (tested against real Go, not proved from fmt's source: count such statements apart). THE CARD IS WHAT COUNTS. Prove the row's statement (the work); the ties are given (YteimeeepcfcfcaaGreatDoorTie.lean); close each card by the builder's one call (the guide's Derived/Test/ToyasCard.lean, 'card_holds'). Laid BY PROGRAM, IN A SANDBOX (cutbox-door.mjs). By AI agents, Wed Nov 11 2026. No macro, syntax, notation, axiom, sorry.
-/
import Derived.Test.YteimeeepcfcfcaaGreatDoorRows
import GoSem.ClaimSeven
namespace Go.Proofs.YteimeeepcfcfcaaGreatDoor
namespace Rows

/-- THE TIED CARD OF 'laws.FnBKBack'. -/
def fnBKBackCard : Claim7 := { stood := { row := fnBKBackRow, standIns := [], harness := (true, "dff6b79ef9dbaaa194b014694a4eb274ae6a3bdf71e3a2dc25351774efd41f4d"), looks := true }, kinds := [], alts := [], laidByText := true, laidKinds := [.data], laidTests := true, laidLooks := .later }
def FnBKBackCardSaid : Prop := Claim7.holds Tryz.pinned (.plain (OpenSpec.ofChange fnBKBackSpec)) fnBKBackCard

/-- THE SECOND FORM's CARD OF 'laws.FnBKBack'. -/
def fnBKBackUptoCard : Claim7 := { stood := { row := fnBKBackUptoRow, standIns := [], harness := (true, "dff6b79ef9dbaaa194b014694a4eb274ae6a3bdf71e3a2dc25351774efd41f4d"), looks := true }, kinds := [], alts := [], laidByText := true, laidKinds := [.data], laidTests := true, laidLooks := .later }
def FnBKBackUptoCardSaid : Prop := Claim7.holds Tryz.pinned (.plain (OpenSpec.upto fnBKBackSpec)) fnBKBackUptoCard
end Rows
end Go.Proofs.YteimeeepcfcfcaaGreatDoor
