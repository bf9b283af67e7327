/-
  DERIVED. GIVEN WITH THE SEED: THE CARDS: each row of YtfbohkbpgfnceaaGreatDoorRows.lean that lists a variable, with what it lists TIED to the program's text (the seventh form; the later family's looks); each row that meets fmt, with fmt's text TOLD by the authors' own Lean function (tested against real Go, not proved from fmt's source: count such statements apart). THE CARD IS WHAT COUNTS. Prove the row's statement (the work); the ties are given (YtfbohkbpgfnceaaGreatDoorTie.lean); close each card by the builder's one call (the guide's Derived/Test/ToyasCard.lean, 'card_holds'). Laid BY PROGRAM, IN A SANDBOX (cutbox-door.mjs). By AI agents, Wed Nov 11 2026. No macro, syntax, notation, axiom, sorry.
-/
import Derived.Test.YtfbohkbpgfnceaaGreatDoorRows
import GoSem.ClaimSeven
namespace Go.Proofs.YtfbohkbpgfnceaaGreatDoor
namespace Rows

/-- THE TIED CARD OF 'laws.FnBKOthers'. -/
def fnBKOthersCard : Claim7 := { stood := { row := fnBKOthersRow, standIns := [], harness := (true, "5c279b1e2f37326cdb8f8e6b8a73ec2fc906786324a3dc8623c7c1014bc4b5cf"), looks := true }, kinds := [], alts := [], laidByText := true, laidKinds := [.data], laidTests := true, laidLooks := .later }
def FnBKOthersCardSaid : Prop := Claim7.holds Tryz.pinned (.plain (OpenSpec.ofChange fnBKOthersSpec)) fnBKOthersCard

/-- THE SECOND FORM's CARD OF 'laws.FnBKOthers'. -/
def fnBKOthersUptoCard : Claim7 := { stood := { row := fnBKOthersUptoRow, standIns := [], harness := (true, "5c279b1e2f37326cdb8f8e6b8a73ec2fc906786324a3dc8623c7c1014bc4b5cf"), looks := true }, kinds := [], alts := [], laidByText := true, laidKinds := [.data], laidTests := true, laidLooks := .later }
def FnBKOthersUptoCardSaid : Prop := Claim7.holds Tryz.pinned (.plain (OpenSpec.upto fnBKOthersSpec)) fnBKOthersUptoCard
end Rows
end Go.Proofs.YtfbohkbpgfnceaaGreatDoor
