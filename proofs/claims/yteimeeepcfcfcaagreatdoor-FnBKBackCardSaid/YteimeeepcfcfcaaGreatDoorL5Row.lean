/- The row: laws.FnBKBack returns true at every input, and each of its arguments reads afterwards as it read before (its cell 'laid' as it stands). -/
import Derived.Test.YteimeeepcfcfcaaGreatDoorRows
import Derived.Test.YteimeeepcfcfcaaGreatDoorL5
import Derived.Test.YteimeeepcfcfcaaGreatDoorL5Facts
import Derived.ProofKit
import Derived.LaidMore
import Derived.OpenShut
import Derived.OpenVars
import Derived.ChangeOld
import Derived.Below
import Derived.Stop.Joined
import Derived.Lib.LaidTab
import Derived.MakeChecks
import Derived.ChangeVars
import Derived.Deep.Slices
namespace Go.Proofs.YteimeeepcfcfcaaGreatDoor.fnBKBack
set_option maxRecDepth 100000
set_option maxHeartbeats 2000000
set_option linter.unusedVariables false
set_option linter.unusedSimpArgs false
open Go.ChangeShapes Go.WideShapes Go.ChangeAt Go.RowKit
set_option linter.unusedVariables false

theorem tabNamed : Tryz.prog.globalNamed "given.example/pub-clapboard/spec.ncWidths" = some 0 := by kernel_rfl
theorem tabType : (Tryz.prog.globals[0]?).map (·.type) = some 105 := by kernel_rfl
theorem tabCellE : Tryz.prog.cellsOf 3 = 1 := by kernel_rfl
theorem tabCellT : Tryz.prog.cellsOf 105 = 22 := by kernel_rfl
theorem own : ownKnob Tryz.prog.godebug = none := by kernel_rfl
theorem door_met (os : Os) (args : Array Value) : laidMetH Tryz.prog Rows.fnBKBackRow.laid ((World.doorLaid Tryz.prog 101 os).forCall (fun _ _ => 0) ⟨#[], args, []⟩).memory :=
  laidMetH_of_parts3 (fuel := 8) (laidMet_of_run' 8 (by kernel_rfl) (by kernel_rfl)) (by kernel_rfl) (by kernel_rfl)
set_option maxHeartbeats 4000000 in
theorem lifted (os : Os) (started : os.Started) (H : Type) (enc : TypeId × Value → H) :
    ReturnsInHanded {} Tryz.checked os 3 .any (fun w args => (Rows.fnBKBackSpec.pre enc Tryz.prog Tryz.f3 [] false w args ∧ laidMetH Tryz.prog Rows.fnBKBackRow.laid w) ∧ sizedMet enc Tryz.prog Tryz.f3 (OpenSpec.ofChange Rows.fnBKBackSpec) false w args)
      (Rows.fnBKBackSpec.post enc Tryz.prog Tryz.f3 false true false false) := by
  refine returnsInHanded_of_change_and (C := Tryz.checked) (X := fun w _ => laidMetH Tryz.prog Rows.fnBKBackRow.laid w) (fun _ _ _ hh h => h.of_heap hh) own started (by kernel_rfl) Tryz.func3
    (ChangeSpec.witness_shaped (enc := enc) (C := Tryz.checked) (os := os) (X := fun w _ => laidMetH Tryz.prog Rows.fnBKBackRow.laid w) false (World.doorLaid Tryz.prog 101 os) #[.bool false, .int .i32 0, .int .u16 0, .slice none 0 0, .slice none 0 0, .int .u16 0] 8 rfl (World.shaped_of_RefB (by kernel_rfl) (by kernel_rfl)) (by kernel_rfl) (by kernel_rfl) (by kernel_rfl) (door_met os _)) ?_
  intro W base args ds gs before hval0 hW _ _ hL _
  have hval : ∀ (j : Nat) t v, Tryz.f3.params[j]? = some t → args[j]? = some v → Value.okWide Tryz.prog W .any base t v := hval0
  have hW' := hW
  obtain ⟨p, q, hA0, hV, rfl, hfz, hnd⟩ := hW
  have hA : DataW.TrodAll enc Tryz.prog W 0 (fun _ => true) true Tryz.f3.params.toList args.toList ds p := hA0
  rw [Tryz.params3] at hA hval
  obtain ⟨v0, vs0, d0, ds0, p0, q0, hargs, rfl, rfl, h0, r0⟩ := trodAll_cons hA
  obtain ⟨v1, vs1, d1, ds1, p1, q1, rfl, rfl, rfl, h1, r1⟩ := trodAll_cons r0
  obtain ⟨v2, vs2, d2, ds2, p2, q2, rfl, rfl, rfl, h2, r2⟩ := trodAll_cons r1
  obtain ⟨v3, vs3, d3, ds3, p3, q3, rfl, rfl, rfl, h3, r3⟩ := trodAll_cons r2
  obtain ⟨v4, vs4, d4, ds4, p4, q4, rfl, rfl, rfl, h4, r4⟩ := trodAll_cons r3
  obtain ⟨v5, vs5, d5, ds5, p5, q5, rfl, rfl, rfl, h5, r5⟩ := trodAll_cons r4
  obtain ⟨rfl, rfl, rfl⟩ := trodAll_nil r5
  obtain rfl : args = #[v0, v1, v2, v3, v4, v5] := by cases args; simp_all
  obtain ⟨g0, t0, cs0, f0, e0, x0, hgs, _⟩ := trodVars_one hV
  obtain ⟨a0, rfl, rfl, rfl⟩ := open_bool Tryz.underlying4 (hval 0 4 v0 rfl rfl) h0
  obtain ⟨a1, rfl, rfl, rfl, wf1⟩ := open_int Tryz.underlying21 (hval 1 21 v1 rfl rfl) h1
  have b1 : -2147483648 ≤ a1 ∧ a1 < 2147483648 := by
    have m0 : IntKind.i32.min = -2147483648 := by rfl
    have m1 : IntKind.i32.max = 2147483647 := by rfl
    simp [Lit.wf, m0, m1] at wf1
    omega
  obtain ⟨a2, rfl, rfl, rfl, wf2⟩ := open_int Tryz.underlying22 (hval 2 22 v2 rfl rfl) h2
  have b2 : 0 ≤ a2 ∧ a2 < 65536 := by
    have m0 : IntKind.u16.min = 0 := by rfl
    have m1 : IntKind.u16.max = 65535 := by rfl
    simp [Lit.wf, m0, m1] at wf2
    omega
  have k3 := h3
  have lt3 : ∀ x ∈ p3, x.block < W.heap.size := by obtain ⟨m, hm⟩ := k3; exact DataW.trod_lt m _ _ _ hm
  obtain ⟨aa3, la3, ca3, rfl⟩ := okWide_slice Tryz.underlying23 (hval 3 23 v3 rfl rfl)
  obtain ⟨xs3, hxl3, hxs3⟩ : ∃ xs : List Rc, xs.length = la3 ∧ Rcs W aa3 xs := by
    obtain ⟨fuel, hf⟩ := h3
    obtain ⟨ax, l, cx, e1, _, _, xs, e2, e3⟩ := open_cols hf
    simp [Value.cells] at e1
    obtain ⟨rfl, rfl, rfl⟩ := e1
    exact ⟨xs, e2, e3⟩
  subst hxl3
  have k4 := h4
  have lt4 : ∀ x ∈ p4, x.block < W.heap.size := by obtain ⟨m, hm⟩ := k4; exact DataW.trod_lt m _ _ _ hm
  obtain ⟨aa4, la4, ca4, rfl⟩ := okWide_slice Tryz.underlying24 (hval 4 24 v4 rfl rfl)
  obtain ⟨ys4, hyl4, hyv4, hyb4⟩ : ∃ ys : List Value, ys.length = la4 ∧ View W 1 aa4 la4 ys ∧ AllBytes ys := by
    obtain ⟨fuel, hf⟩ := h4
    obtain ⟨ax, l, cx, e1, ys, e2, e3, e4⟩ := open_bytes hf
    simp [Value.cells] at e1
    obtain ⟨rfl, rfl, rfl⟩ := e1
    exact ⟨ys, e2, e3, e4⟩
  obtain ⟨a5, rfl, rfl, rfl, wf5⟩ := open_int Tryz.underlying22 (hval 5 22 v5 rfl rfl) h5
  have b5 : 0 ≤ a5 ∧ a5 < 65536 := by
    have m0 : IntKind.u16.min = 0 := by rfl
    have m1 : IntKind.u16.max = 65535 := by rfl
    simp [Lit.wf, m0, m1] at wf5
    omega
  have hWd : Wds W := by
    have hL2 : laidMet Tryz.prog Rows.fnBKBackRow.laid W := by
      have := hL
      rwa [MakeChecks.laidMetH_plain Tryz.prog Rows.fnBKBackRow.laid W (by kernel_rfl)] at this
    have hT := Lib.tabIs_of_head (k := .i64) (zs := widths) tabNamed tabType Tryz.underlying105 Tryz.underlying3 tabCellE tabCellT hL2
    exact fun i hi => hT.cell tabNamed i hi
  clear hA0 hval0
  refine (bkBack a0 a1 b1 a2 b2 aa3 ca3 xs3 aa4 la4 ca4 ys4 hyl4 a5 b5 W hxs3 hyv4 hyb4 hWd).mono fun e W' ⟨he, hu⟩ => ?_
  subst he
  have bel := hu.below
  have hV' := Below.trodVars laid bel (by kernel_rfl) hV
  subst hgs
  exact ⟨_, rfl, _, _, _, [], _, _, hW', trodAll_mk1 (shut_bool Tryz.underlying4 _), (trodAll_cons_mk (shut_bool Tryz.underlying4 _) (trodAll_cons_mk (shut_int Tryz.underlying21 wf1) (trodAll_cons_mk (shut_int Tryz.underlying22 wf2) (trodAll_cons_mk (Below.trod laid (by kernel_rfl) (of_decide_eq_true (by kernel_rfl)) k3 bel lt3) (trodAll_cons_mk (Below.trod laid (by kernel_rfl) (of_decide_eq_true (by kernel_rfl)) k4 bel lt4) (trodAll_cons_mk (shut_int Tryz.underlying22 wf5) trodAll_mk0)))))), hV', bel.frame _, fun h => by cases h⟩
theorem fNamed : Tryz.prog.funcNamed Rows.fnBKBackRow.func = some 3 := by kernel_rfl
theorem kInPlace : (Rows.fnBKBackRow.inPlace == Program.inPlace Tryz.prog 3) = true := by kernel_rfl
theorem kUnfollowed : (Rows.fnBKBackRow.unfollowed == Program.unfollowed Tryz.prog 3) = true := by kernel_rfl
theorem kRecurses : (Rows.fnBKBackRow.recurses == Program.recurses Tryz.prog 3) = true := by kernel_rfl
theorem kNamed : (Rows.fnBKBackRow.named == Program.varsNamed Tryz.prog 3) = true := by kernel_rfl
set_option maxHeartbeats 4000000 in
theorem joined : joinedFacts Tryz.prog 3 Tryz.f3 Rows.fnBKBackSpec Rows.fnBKBackRow = true := by
  unfold joinedFacts
  repeat' (with_reducible refine and_mk ?_ ?_)
  all_goals first
    | with_reducible exact laid
    | with_reducible exact fMaps
    | with_reducible exact fKeys
    | with_reducible exact fHeard
    | with_reducible exact fEnter
    | with_reducible exact fLift
    | with_reducible exact fMake
    | with_reducible exact fStops
    | with_reducible exact fKnobs
    | with_reducible exact kInPlace
    | with_reducible exact kUnfollowed
    | with_reducible exact kRecurses
    | with_reducible exact kNamed
    | (as_aux_lemma => kernel_rfl)
set_option maxHeartbeats 4000000 in
theorem over : Rows.fnBKBackRow.holds Tryz.pinned (OpenSpec.ofChange Rows.fnBKBackSpec) :=
  OpenClaim.holds_of_wide 3 Tryz.f3 rfl rfl rfl rfl rfl rfl rfl ⟨rfl, rfl, rfl, rfl, rfl⟩ rfl rfl rfl rfl rfl fNamed Tryz.func3 joined
    (of_decide_eq_true (by kernel_rfl)) (by unfold Func.isWrapper; first | (rw [if_pos (by decide +kernel)]; kernel_rfl) | (rw [if_neg (by decide +kernel)]; exact ⟨rfl, rfl⟩))
    (fun os started H enc _ => lifted os started H enc)
end Go.Proofs.YteimeeepcfcfcaaGreatDoor.fnBKBack
namespace Go.Proofs.YteimeeepcfcfcaaGreatDoor
theorem fnBKBack_holds : Rows.FnBKBackSaid := fnBKBack.over
#print axioms fnBKBack_holds
end Go.Proofs.YteimeeepcfcfcaaGreatDoor
