/- The row: laws.FnBKOthers returns true at every input, and each of its arguments reads afterwards as it read before (its cell 'laid' as it stands). -/
import Derived.Test.YtfbohkbpgfnceaaGreatDoorRows
import Derived.Test.YtfbohkbpgfnceaaGreatDoorL4
import Derived.Test.YtfbohkbpgfnceaaGreatDoorL4Facts
import Derived.ProofKit
import Derived.LaidMore
import Derived.OpenShut
import Derived.OpenVars
import Derived.ChangeOld
import Derived.Below
import Derived.Stop.Joined
import Derived.Lib.LaidTab
import Derived.MakeChecks
import Derived.ChangeVars
import Derived.Deep.Slices
namespace Go.Proofs.YtfbohkbpgfnceaaGreatDoor.fnBKOthers
set_option linter.unusedVariables false
set_option linter.unusedSimpArgs false
open Go.ChangeShapes Go.WideShapes Go.ChangeAt Go.RowKit
set_option linter.unusedVariables false

theorem tabNamed : Tryz.prog.globalNamed "given.example/pub-clapboard/spec.ncWidths" = some 0 := by kernel_rfl
theorem tabType : (Tryz.prog.globals[0]?).map (·.type) = some 97 := by kernel_rfl
theorem tabCellE : Tryz.prog.cellsOf 3 = 1 := by kernel_rfl
theorem tabCellT : Tryz.prog.cellsOf 97 = 22 := by kernel_rfl
theorem own : ownKnob Tryz.prog.godebug = none := by kernel_rfl
theorem door_met (os : Os) (args : Array Value) : laidMetH Tryz.prog Rows.fnBKOthersRow.laid ((World.doorLaid Tryz.prog 101 os).forCall (fun _ _ => 0) ⟨#[], args, []⟩).memory :=
  laidMetH_of_parts3 (fuel := 8) (laidMet_of_run' 8 (by kernel_rfl) (by kernel_rfl)) (by kernel_rfl) (by kernel_rfl)
set_option maxRecDepth 100000 in
set_option maxHeartbeats 4000000 in
theorem lifted (os : Os) (started : os.Started) (H : Type) (enc : TypeId × Value → H) :
    ReturnsInHanded {} Tryz.checked os 3 .any (fun w args => (Rows.fnBKOthersSpec.pre enc Tryz.prog Tryz.f3 [] false w args ∧ laidMetH Tryz.prog Rows.fnBKOthersRow.laid w) ∧ sizedMet enc Tryz.prog Tryz.f3 (OpenSpec.ofChange Rows.fnBKOthersSpec) false w args)
      (Rows.fnBKOthersSpec.post enc Tryz.prog Tryz.f3 false true false false) := by
  refine returnsInHanded_of_change_and (C := Tryz.checked) (X := fun w _ => laidMetH Tryz.prog Rows.fnBKOthersRow.laid w) (fun _ _ _ hh h => h.of_heap hh) own started (by kernel_rfl) Tryz.func3
    (ChangeSpec.witness_shaped (enc := enc) (C := Tryz.checked) (os := os) (X := fun w _ => laidMetH Tryz.prog Rows.fnBKOthersRow.laid w) false (World.doorLaid Tryz.prog 101 os) #[.int .u16 0, .slice none 0 0, .int .u8 0, .int .u8 0] 8 rfl (World.shaped_of_RefB (by kernel_rfl) (by kernel_rfl)) (by kernel_rfl) (by kernel_rfl) (by kernel_rfl) (door_met os _)) ?_
  intro W base args ds gs before hval0 hW _ _ hL _
  have hval : ∀ (j : Nat) t v, Tryz.f3.params[j]? = some t → args[j]? = some v → Value.okWide Tryz.prog W .any base t v := hval0
  have hW' := hW
  obtain ⟨p, q, hA0, hV, rfl, hfz, hnd⟩ := hW
  have hA : DataW.TrodAll enc Tryz.prog W 0 (fun _ => true) true Tryz.f3.params.toList args.toList ds p := hA0
  rw [Tryz.params3] at hA hval
  obtain ⟨v0, vs0, d0, ds0, p0, q0, hargs, rfl, rfl, h0, r0⟩ := trodAll_cons hA
  obtain ⟨v1, vs1, d1, ds1, p1, q1, rfl, rfl, rfl, h1, r1⟩ := trodAll_cons r0
  obtain ⟨v2, vs2, d2, ds2, p2, q2, rfl, rfl, rfl, h2, r2⟩ := trodAll_cons r1
  obtain ⟨v3, vs3, d3, ds3, p3, q3, rfl, rfl, rfl, h3, r3⟩ := trodAll_cons r2
  obtain ⟨rfl, rfl, rfl⟩ := trodAll_nil r3
  obtain rfl : args = #[v0, v1, v2, v3] := by cases args; simp_all
  obtain ⟨g0, t0, cs0, f0, e0, x0, hgs, _⟩ := trodVars_one hV
  obtain ⟨a0, rfl, rfl, rfl, wf0⟩ := open_int Tryz.underlying22 (hval 0 22 v0 rfl rfl) h0
  have b0 : 0 ≤ a0 ∧ a0 < 65536 := by
    have m0 : IntKind.u16.min = 0 := by rfl
    have m1 : IntKind.u16.max = 65535 := by rfl
    simp [Lit.wf, m0, m1] at wf0
    omega
  have k1 := h1
  have lt1 : ∀ x ∈ p1, x.block < W.heap.size := by obtain ⟨m, hm⟩ := k1; exact DataW.trod_lt m _ _ _ hm
  obtain ⟨aa1, la1, ca1, rfl⟩ := okWide_slice Tryz.underlying23 (hval 1 23 v1 rfl rfl)
  obtain ⟨xs1, hxl1, hxs1⟩ : ∃ xs : List Rc, xs.length = la1 ∧ Rcs W aa1 xs := by
    obtain ⟨fuel, hf⟩ := h1
    obtain ⟨ax, l, cx, e1, _, _, xs, e2, e3⟩ := open_cols hf
    simp [Value.cells] at e1
    obtain ⟨rfl, rfl, rfl⟩ := e1
    exact ⟨xs, e2, e3⟩
  subst hxl1
  obtain ⟨a2, rfl, rfl, rfl, wf2⟩ := open_int Tryz.underlying5 (hval 2 5 v2 rfl rfl) h2
  have b2 : 0 ≤ a2 ∧ a2 < 256 := by
    have m0 : IntKind.u8.min = 0 := by rfl
    have m1 : IntKind.u8.max = 255 := by rfl
    simp [Lit.wf, m0, m1] at wf2
    omega
  obtain ⟨a3, rfl, rfl, rfl, wf3⟩ := open_int Tryz.underlying5 (hval 3 5 v3 rfl rfl) h3
  have b3 : 0 ≤ a3 ∧ a3 < 256 := by
    have m0 : IntKind.u8.min = 0 := by rfl
    have m1 : IntKind.u8.max = 255 := by rfl
    simp [Lit.wf, m0, m1] at wf3
    omega
  have hWd : Wds W := by
    have hL2 : laidMet Tryz.prog Rows.fnBKOthersRow.laid W := by
      have := hL
      rwa [MakeChecks.laidMetH_plain Tryz.prog Rows.fnBKOthersRow.laid W (by kernel_rfl)] at this
    have hT := Lib.tabIs_of_head (k := .i64) (zs := widths) tabNamed tabType Tryz.underlying97 Tryz.underlying3 tabCellE tabCellT hL2
    exact fun i hi => hT.cell tabNamed i hi
  clear hA0 hval0
  refine (bkOthers a0 b0 aa1 ca1 xs1 a2 b2 a3 b3 W hxs1 hWd).mono fun e W' ⟨he, hu⟩ => ?_
  subst he
  have bel := hu.below
  have hV' := Below.trodVars laid bel (by kernel_rfl) hV
  subst hgs
  exact ⟨_, rfl, _, _, _, [], _, _, hW', trodAll_mk1 (shut_bool Tryz.underlying4 _), (trodAll_cons_mk (shut_int Tryz.underlying22 wf0) (trodAll_cons_mk (Below.trod laid (by kernel_rfl) (of_decide_eq_true (by kernel_rfl)) k1 bel lt1) (trodAll_cons_mk (shut_int Tryz.underlying5 wf2) (trodAll_cons_mk (shut_int Tryz.underlying5 wf3) trodAll_mk0)))), hV', bel.frame _, fun h => by cases h⟩
theorem fNamed : Tryz.prog.funcNamed Rows.fnBKOthersRow.func = some 3 := by kernel_rfl
theorem kInPlace : (Rows.fnBKOthersRow.inPlace == Program.inPlace Tryz.prog 3) = true := by kernel_rfl
theorem kUnfollowed : (Rows.fnBKOthersRow.unfollowed == Program.unfollowed Tryz.prog 3) = true := by kernel_rfl
theorem kRecurses : (Rows.fnBKOthersRow.recurses == Program.recurses Tryz.prog 3) = true := by kernel_rfl
theorem kNamed : (Rows.fnBKOthersRow.named == Program.varsNamed Tryz.prog 3) = true := by kernel_rfl
set_option maxRecDepth 100000 in
set_option maxHeartbeats 4000000 in
theorem joined : joinedFacts Tryz.prog 3 Tryz.f3 Rows.fnBKOthersSpec Rows.fnBKOthersRow = true := by
  unfold joinedFacts
  repeat' (with_reducible refine and_mk ?_ ?_)
  all_goals first
    | with_reducible exact laid
    | with_reducible exact fMaps
    | with_reducible exact fKeys
    | with_reducible exact fHeard
    | with_reducible exact fEnter
    | with_reducible exact fLift
    | with_reducible exact fMake
    | with_reducible exact fStops
    | with_reducible exact fKnobs
    | with_reducible exact kInPlace
    | with_reducible exact kUnfollowed
    | with_reducible exact kRecurses
    | with_reducible exact kNamed
    | (as_aux_lemma => kernel_rfl)
set_option maxHeartbeats 4000000 in
theorem over : Rows.fnBKOthersRow.holds Tryz.pinned (OpenSpec.ofChange Rows.fnBKOthersSpec) :=
  OpenClaim.holds_of_wide 3 Tryz.f3 rfl rfl rfl rfl rfl rfl rfl ⟨rfl, rfl, rfl, rfl, rfl⟩ rfl rfl rfl rfl rfl fNamed Tryz.func3 joined
    (of_decide_eq_true (by kernel_rfl)) (by unfold Func.isWrapper; first | (rw [if_pos (by decide +kernel)]; kernel_rfl) | (rw [if_neg (by decide +kernel)]; exact ⟨rfl, rfl⟩))
    (fun os started H enc _ => lifted os started H enc)
end Go.Proofs.YtfbohkbpgfnceaaGreatDoor.fnBKOthers
namespace Go.Proofs.YtfbohkbpgfnceaaGreatDoor
theorem fnBKOthers_holds : Rows.FnBKOthersSaid := fnBKOthers.over
#print axioms fnBKOthers_holds
end Go.Proofs.YtfbohkbpgfnceaaGreatDoor
