/- Proved: laws.FnBKOthers returns true at every input, and each of its arguments reads afterwards as it read before; what the row says of a variable of the reference (ncWidths) is tied to the program's text. Conditions: none. -/
import Derived.Test.YtfbohkbpgfnceaaGreatDoorCards
import Derived.Test.YtfbohkbpgfnceaaGreatDoorTie
import Derived.Test.YtfbohkbpgfnceaaGreatDoorL4Row
import Derived.Test.YtfbohkbpgfnceaaGreatDoorL4CardA
import Derived.Test.YtfbohkbpgfnceaaGreatDoorL4CardB
import Derived.Test.YtfbohkbpgfnceaaGreatDoorL4CardC
import Derived.SevenTiedAt
namespace Go.Proofs.YtfbohkbpgfnceaaGreatDoor
set_option linter.unusedVariables false
set_option linter.unusedSimpArgs false
open Go
theorem cardParams (f : FuncId) (fn : Func) (hf : Tryz.pinned.checked.prog.funcNamed Rows.fnBKOthersRow.func = some f) (hfn : Tryz.pinned.checked.prog.funcs[f]? = some fn) :
    ∀ (j : Nat) t, fn.params[j]? = some t → Tryz.pinned.checked.prog.wantsStandIn t = false := by
  obtain rfl : f = 3 := (Option.some.inj (fnBKOthers.fNamed.symm.trans hf)).symm
  obtain rfl : fn = Tryz.f3 := (Option.some.inj (Tryz.func3.symm.trans hfn)).symm
  intro j t ht
  rw [Tryz.params3] at ht
  match j, ht with
  | 0, ht => simp at ht; subst ht; exact cardStand.1
  | 1, ht => simp at ht; subst ht; exact cardStand.2.1
  | 2, ht => simp at ht; subst ht; exact cardStand.2.2.1
  | 3, ht => simp at ht; subst ht; exact cardStand.2.2.2
  | j + 4, ht => simp at ht
theorem fnBKOthersCard_holds : Rows.FnBKOthersCardSaid :=
  Claim7.holds_tied_plain_at .later [] [.data] true Rows.fnBKOthersCard.stood.harness true
    fnBKOthers_holds (fun _ h => by cases h) cardWf (fun _ h => by cases h) fnBKOthers_row_tie rfl ⟨rfl, rfl⟩ cardMain rfl
    (fun f fn hf hfn => ⟨cardLooks, cardParams f fn hf hfn⟩) cardGoes
#print axioms fnBKOthersCard_holds
end Go.Proofs.YtfbohkbpgfnceaaGreatDoor
