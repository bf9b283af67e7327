/-
  DERIVED. GIVEN WITH THE SEED: THE CARDS: each row of YtgbpabpeddajpaaGreatDoorRows.lean that lists a variable, with what it lists TIED to the program's text (the seventh form; the later family's looks); each row that meets fmt, with fmt's text TOLD by the authors' own Lean function (tested against real Go, not proved from fmt's source: count such statements apart). THE CARD IS WHAT COUNTS. Prove the row's statement (the work); the ties are given (YtgbpabpeddajpaaGreatDoorTie.lean); close each card by the builder's one call (the guide's Derived/Test/ToyasCard.lean, 'card_holds'). Laid BY PROGRAM, IN A SANDBOX (cutbox-door.mjs). By AI agents, Wed Nov 11 2026. No macro, syntax, notation, axiom, sorry.
-/
import Derived.Test.YtgbpabpeddajpaaGreatDoorRows
import GoSem.ClaimSeven
namespace Go.Proofs.YtgbpabpeddajpaaGreatDoor
namespace Rows

/-- THE TIED CARD OF 'laws.FnBKRaw'. -/
def fnBKRawCard : Claim7 := { stood := { row := fnBKRawRow, standIns := [], harness := (true, "70c7ea1ab8eaedecdbdc02daa07bc3c7a3d6d6acf54ee6e34e48540a90ebb5f2"), looks := true }, kinds := [], alts := [], laidByText := true, laidKinds := [.data], laidTests := true, laidLooks := .later }
def FnBKRawCardSaid : Prop := Claim7.holds Tryz.pinned (.plain (OpenSpec.ofChange fnBKRawSpec)) fnBKRawCard

/-- THE SECOND FORM's CARD OF 'laws.FnBKRaw'. -/
def fnBKRawUptoCard : Claim7 := { stood := { row := fnBKRawUptoRow, standIns := [], harness := (true, "70c7ea1ab8eaedecdbdc02daa07bc3c7a3d6d6acf54ee6e34e48540a90ebb5f2"), looks := true }, kinds := [], alts := [], laidByText := true, laidKinds := [.data], laidTests := true, laidLooks := .later }
def FnBKRawUptoCardSaid : Prop := Claim7.holds Tryz.pinned (.plain (OpenSpec.upto fnBKRawSpec)) fnBKRawUptoCard
end Rows
end Go.Proofs.YtgbpabpeddajpaaGreatDoor
