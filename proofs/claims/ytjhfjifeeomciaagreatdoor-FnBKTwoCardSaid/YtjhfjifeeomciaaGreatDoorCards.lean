/-
  DERIVED. GIVEN WITH THE SEED: THE CARDS: each row of YtjhfjifeeomciaaGreatDoorRows.lean that lists a variable, with what it lists TIED to the program's text (the seventh form; the later family's looks); each row that meets fmt, with fmt's text TOLD by the authors' own Lean function (tested against real Go, not proved from fmt's source: count such statements apart). THE CARD IS WHAT COUNTS. Prove the row's statement (the work); the ties are given (YtjhfjifeeomciaaGreatDoorTie.lean); close each card by the builder's one call (the guide's Derived/Test/ToyasCard.lean, 'card_holds'). Laid BY PROGRAM, IN A SANDBOX (cutbox-door.mjs). By AI agents, Wed Nov 11 2026. No macro, syntax, notation, axiom, sorry.
-/
import Derived.Test.YtjhfjifeeomciaaGreatDoorRows
import GoSem.ClaimSeven
namespace Go.Proofs.YtjhfjifeeomciaaGreatDoor
namespace Rows

/-- THE TIED CARD OF 'laws.FnBKTwo'. -/
def fnBKTwoCard : Claim7 := { stood := { row := fnBKTwoRow, standIns := [], harness := (true, "18973dd6f8b3b5c17f31eae60970dc3daf36e2385d9b6fc962068d8d5d683d47"), looks := true }, kinds := [], alts := [], laidByText := true, laidKinds := [.data], laidTests := true, laidLooks := .later }
def FnBKTwoCardSaid : Prop := Claim7.holds Tryz.pinned (.plain (OpenSpec.ofChange fnBKTwoSpec)) fnBKTwoCard

/-- THE SECOND FORM's CARD OF 'laws.FnBKTwo'. -/
def fnBKTwoUptoCard : Claim7 := { stood := { row := fnBKTwoUptoRow, standIns := [], harness := (true, "18973dd6f8b3b5c17f31eae60970dc3daf36e2385d9b6fc962068d8d5d683d47"), looks := true }, kinds := [], alts := [], laidByText := true, laidKinds := [.data], laidTests := true, laidLooks := .later }
def FnBKTwoUptoCardSaid : Prop := Claim7.holds Tryz.pinned (.plain (OpenSpec.upto fnBKTwoSpec)) fnBKTwoUptoCard
end Rows
end Go.Proofs.YtjhfjifeeomciaaGreatDoor
