/- The row: laws.FnBKEmpty returns true at every input, and each of its arguments reads afterwards as it read before (its cell 'laid' as it stands). -/
import Derived.Test.YtjhhjldonekmpaaGreatDoorRows
import Derived.Test.YtjhhjldonekmpaaGreatDoorBkLaw
import Derived.Test.YtjhhjldonekmpaaGreatDoorBkFacts
import Derived.ProofKit
import Derived.LaidMore
import Derived.OpenShut
import Derived.OpenVars
import Derived.ChangeOld
import Derived.Below
import Derived.Stop.Joined
namespace Go.Proofs.YtjhhjldonekmpaaGreatDoor.fnBKEmpty
open Go.ChangeShapes Go.WideShapes Go.ChangeAt Go.RowKit
set_option linter.unusedVariables false

theorem own : ownKnob Tryz.prog.godebug = none := by kernel_rfl
theorem door_met (os : Os) (args : Array Value) : laidMetH Tryz.prog Rows.fnBKEmptyRow.laid ((World.doorLaid Tryz.prog 106 os).forCall (fun _ _ => 0) ⟨#[], args, []⟩).memory :=
  laidMetH_of_parts3 (fuel := 8) (laidMet_of_run' 8 (by kernel_rfl) (by kernel_rfl)) (by kernel_rfl) (by kernel_rfl)
set_option maxRecDepth 100000 in
set_option maxHeartbeats 4000000 in
theorem lifted (os : Os) (started : os.Started) (H : Type) (enc : TypeId × Value → H) :
    ReturnsInHanded {} Tryz.checked os 3 .any (fun w args => (Rows.fnBKEmptySpec.pre enc Tryz.prog Tryz.f3 [] false w args ∧ laidMetH Tryz.prog Rows.fnBKEmptyRow.laid w) ∧ sizedMet enc Tryz.prog Tryz.f3 (OpenSpec.ofChange Rows.fnBKEmptySpec) false w args)
      (Rows.fnBKEmptySpec.post enc Tryz.prog Tryz.f3 false true false false) := by
  refine returnsInHanded_of_change_and (C := Tryz.checked) (X := fun w _ => laidMetH Tryz.prog Rows.fnBKEmptyRow.laid w) (fun _ _ _ hh h => h.of_heap hh) own started (by kernel_rfl) Tryz.func3
    (ChangeSpec.witness_shaped (enc := enc) (C := Tryz.checked) (os := os) (X := fun w _ => laidMetH Tryz.prog Rows.fnBKEmptyRow.laid w) false (World.doorLaid Tryz.prog 106 os) #[.bool false, .int .i32 0, .int .u16 0] 8 rfl (World.shaped_of_RefB (by kernel_rfl) (by kernel_rfl)) (by kernel_rfl) (by kernel_rfl) (by kernel_rfl) (door_met os _)) ?_
  intro W base args ds gs before hval0 hW _ _ hL _
  have hval : ∀ (j : Nat) t v, Tryz.f3.params[j]? = some t → args[j]? = some v → Value.okWide Tryz.prog W .any base t v := hval0
  have hW' := hW
  obtain ⟨p, q, hA0, hV, rfl, hfz, hnd⟩ := hW
  have hA : DataW.TrodAll enc Tryz.prog W 0 (fun _ => true) true Tryz.f3.params.toList args.toList ds p := hA0
  rw [Tryz.params3] at hA hval
  obtain ⟨v0, vs0, d0, ds0, p0, q0, hargs, rfl, rfl, h0, r0⟩ := trodAll_cons hA
  obtain ⟨v1, vs1, d1, ds1, p1, q1, rfl, rfl, rfl, h1, r1⟩ := trodAll_cons r0
  obtain ⟨v2, vs2, d2, ds2, p2, q2, rfl, rfl, rfl, h2, r2⟩ := trodAll_cons r1
  obtain ⟨rfl, rfl, rfl⟩ := trodAll_nil r2
  obtain rfl : args = #[v0, v1, v2] := by cases args; simp_all
  obtain ⟨g0, t0, cs0, f0, e0, x0, g1, t1, cs1, f1, e1, x1, hgs, _⟩ := trodVars_two hV
  obtain ⟨a0, rfl, rfl, rfl⟩ := open_bool Tryz.underlying4 (hval 0 4 v0 rfl rfl) h0
  obtain ⟨a1, rfl, rfl, rfl, wf1⟩ := open_int Tryz.underlying21 (hval 1 21 v1 rfl rfl) h1
  obtain ⟨a2, rfl, rfl, rfl, wf2⟩ := open_int Tryz.underlying22 (hval 2 22 v2 rfl rfl) h2
  have b1 : -2147483648 ≤ a1 ∧ a1 < 2147483648 := by
    have m0 : IntKind.i32.min = -2147483648 := by rfl
    have m1 : IntKind.i32.max = 2147483647 := by rfl
    simp [Lit.wf, m0, m1] at wf1
    omega
  have b2 : 0 ≤ a2 ∧ a2 < 65536 := by
    have m0 : IntKind.u16.min = 0 := by rfl
    have m1 : IntKind.u16.max = 65535 := by rfl
    simp [Lit.wf, m0, m1] at wf2
    omega
  clear hA0 hval0
  refine (bkEmpty a0 a1 a2 b1 b2 W).mono fun e W' ⟨he, hu⟩ => ?_
  subst he
  have bel := hu.below
  have hV' := Below.trodVars laid bel (by kernel_rfl) hV
  subst hgs
  exact ⟨_, rfl, _, _, _, [], _, _, hW', trodAll_mk1 (shut_bool Tryz.underlying4 _), (trodAll_cons_mk (shut_bool Tryz.underlying4 _) (trodAll_cons_mk (shut_int Tryz.underlying21 wf1) (trodAll_cons_mk (shut_int Tryz.underlying22 wf2) trodAll_mk0))), hV', bel.frame _, fun h => by cases h⟩
theorem fNamed : Tryz.prog.funcNamed Rows.fnBKEmptyRow.func = some 3 := by kernel_rfl
theorem kInPlace : (Rows.fnBKEmptyRow.inPlace == Program.inPlace Tryz.prog 3) = true := by kernel_rfl
theorem kUnfollowed : (Rows.fnBKEmptyRow.unfollowed == Program.unfollowed Tryz.prog 3) = true := by kernel_rfl
theorem kRecurses : (Rows.fnBKEmptyRow.recurses == Program.recurses Tryz.prog 3) = true := by kernel_rfl
theorem kNamed : (Rows.fnBKEmptyRow.named == Program.varsNamed Tryz.prog 3) = true := by kernel_rfl
set_option maxRecDepth 100000 in
set_option maxHeartbeats 4000000 in
theorem joined : joinedFacts Tryz.prog 3 Tryz.f3 Rows.fnBKEmptySpec Rows.fnBKEmptyRow = true := by
  unfold joinedFacts
  repeat' (with_reducible refine and_mk ?_ ?_)
  all_goals first
    | with_reducible exact laid
    | with_reducible exact fMaps
    | with_reducible exact fKeys
    | with_reducible exact fHeard
    | with_reducible exact fEnter
    | with_reducible exact fLift
    | with_reducible exact fMake
    | with_reducible exact fStops
    | with_reducible exact fKnobs
    | with_reducible exact kInPlace
    | with_reducible exact kUnfollowed
    | with_reducible exact kRecurses
    | with_reducible exact kNamed
    | (as_aux_lemma => kernel_rfl)
set_option maxHeartbeats 4000000 in
theorem over : Rows.fnBKEmptyRow.holds Tryz.pinned (OpenSpec.ofChange Rows.fnBKEmptySpec) :=
  OpenClaim.holds_of_wide 3 Tryz.f3 rfl rfl rfl rfl rfl rfl rfl ⟨rfl, rfl, rfl, rfl, rfl⟩ rfl rfl rfl rfl rfl fNamed Tryz.func3 joined
    (of_decide_eq_true (by kernel_rfl)) (by unfold Func.isWrapper; first | (rw [if_pos (by decide +kernel)]; kernel_rfl) | (rw [if_neg (by decide +kernel)]; exact ⟨rfl, rfl⟩))
    (fun os started H enc _ => lifted os started H enc)
end Go.Proofs.YtjhhjldonekmpaaGreatDoor.fnBKEmpty
namespace Go.Proofs.YtjhhjldonekmpaaGreatDoor
theorem fnBKEmpty_holds : Rows.FnBKEmptySaid := fnBKEmpty.over
#print axioms fnBKEmpty_holds
end Go.Proofs.YtjhhjldonekmpaaGreatDoor
