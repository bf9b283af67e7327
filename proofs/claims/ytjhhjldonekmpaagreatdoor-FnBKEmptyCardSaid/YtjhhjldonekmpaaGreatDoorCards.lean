/-
  DERIVED. GIVEN WITH THE SEED: THE CARDS: each row of YtjhhjldonekmpaaGreatDoorRows.lean that lists a variable, with what it lists TIED to the program's text (the seventh form; the later family's looks); each row that meets fmt, with fmt's text TOLD by the authors' own Lean function (tested against real Go, not proved from fmt's source: count such statements apart). THE CARD IS WHAT COUNTS. Prove the row's statement (the work); the ties are given (YtjhhjldonekmpaaGreatDoorTie.lean); close each card by the builder's one call (the guide's Derived/Test/ToyasCard.lean, 'card_holds'). Laid BY PROGRAM, IN A SANDBOX (cutbox-door.mjs). By AI agents, Wed Nov 11 2026. No macro, syntax, notation, axiom, sorry.
-/
import Derived.Test.YtjhhjldonekmpaaGreatDoorRows
import GoSem.ClaimSeven
namespace Go.Proofs.YtjhhjldonekmpaaGreatDoor
namespace Rows

/-- THE TIED CARD OF 'laws.FnBKEmpty'. -/
def fnBKEmptyCard : Claim7 := { stood := { row := fnBKEmptyRow, standIns := [], harness := (true, "3f9e28cad28404a5d9081f576dcc0665024d3c11f738acf335532657d9af9b15"), looks := true }, kinds := [], alts := [], laidByText := true, laidKinds := [.data, .data], laidTests := true, laidLooks := .later }
def FnBKEmptyCardSaid : Prop := Claim7.holds Tryz.pinned (.plain (OpenSpec.ofChange fnBKEmptySpec)) fnBKEmptyCard

/-- THE SECOND FORM's CARD OF 'laws.FnBKEmpty'. -/
def fnBKEmptyUptoCard : Claim7 := { stood := { row := fnBKEmptyUptoRow, standIns := [], harness := (true, "3f9e28cad28404a5d9081f576dcc0665024d3c11f738acf335532657d9af9b15"), looks := true }, kinds := [], alts := [], laidByText := true, laidKinds := [.data, .data], laidTests := true, laidLooks := .later }
def FnBKEmptyUptoCardSaid : Prop := Claim7.holds Tryz.pinned (.plain (OpenSpec.upto fnBKEmptySpec)) fnBKEmptyUptoCard
end Rows
end Go.Proofs.YtjhhjldonekmpaaGreatDoor
