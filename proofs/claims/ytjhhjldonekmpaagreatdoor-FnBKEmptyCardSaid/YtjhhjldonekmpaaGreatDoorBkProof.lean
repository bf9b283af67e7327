/- Proved: laws.FnBKEmpty returns true at every input, and each of its arguments reads afterwards as it read before; what the row says of the two variables of the reference (ncWidths, ncNames) is tied to the program's text. Conditions: none. -/
import Derived.Test.YtjhhjldonekmpaaGreatDoorCards
import Derived.Test.YtjhhjldonekmpaaGreatDoorTie
import Derived.Test.YtjhhjldonekmpaaGreatDoorBkRow
import Derived.Test.YtjhhjldonekmpaaGreatDoorBkCardA
import Derived.Test.YtjhhjldonekmpaaGreatDoorBkCardB
import Derived.Test.YtjhhjldonekmpaaGreatDoorBkCardC
import Derived.SevenTiedAt
namespace Go.Proofs.YtjhhjldonekmpaaGreatDoor
open Go
theorem cardParams (f : FuncId) (fn : Func) (hf : Tryz.pinned.checked.prog.funcNamed Rows.fnBKEmptyRow.func = some f) (hfn : Tryz.pinned.checked.prog.funcs[f]? = some fn) :
    ∀ (j : Nat) t, fn.params[j]? = some t → Tryz.pinned.checked.prog.wantsStandIn t = false := by
  obtain rfl : f = 3 := (Option.some.inj (fnBKEmpty.fNamed.symm.trans hf)).symm
  obtain rfl : fn = Tryz.f3 := (Option.some.inj (Tryz.func3.symm.trans hfn)).symm
  intro j t ht
  rw [Tryz.params3] at ht
  match j, ht with
  | 0, ht => simp at ht; subst ht; exact cardStand.1
  | 1, ht => simp at ht; subst ht; exact cardStand.2.1
  | 2, ht => simp at ht; subst ht; exact cardStand.2.2
  | j + 3, ht => simp at ht
theorem fnBKEmptyCard_holds : Rows.FnBKEmptyCardSaid :=
  Claim7.holds_tied_plain_at .later [] [.data, .data] true Rows.fnBKEmptyCard.stood.harness true
    fnBKEmpty_holds (fun _ h => by cases h) cardWf (fun _ h => by cases h) fnBKEmpty_row_tie rfl ⟨rfl, rfl⟩ cardMain rfl
    (fun f fn hf hfn => ⟨cardLooks, cardParams f fn hf hfn⟩) cardGoes
#print axioms fnBKEmptyCard_holds
end Go.Proofs.YtjhhjldonekmpaaGreatDoor
