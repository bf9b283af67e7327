/- Proved: laws.FnXNulls returns true at every input, and each of its arguments reads afterwards as it read before. Conditions: none. -/
import Derived.Test.YtpehfhdacgjmpaaGreatRows
import Derived.Test.YtpehfhdacgjmpaaGreatNullLaw
import Derived.Test.YtpehfhdacgjmpaaGreatOpens
import Derived.Test.YtpehfhdacgjmpaaGreatFacts
import Derived.ProofKit
import Derived.OpenShut
import Derived.ShutString
import Derived.ChangeOld
import Derived.Below
import Derived.Deep.Slices
namespace Go.Proofs.YtpehfhdacgjmpaaGreat.fnXNulls
open Go.ChangeShapes Go.WideShapes Go.ChangeAt Go.RowKit
open Go.ChangeMaps (open_string shut_string)
set_option linter.unusedVariables false

theorem own : ownKnob Tryz.prog.godebug = none := by kernel_rfl
theorem walk (ar : Option Addr) (n c : Nat) (ms : List (Bool × ByteArray)) (w : World) (hr : View w 2 ar n (ms.flatMap cells_N)) :
    Calls Tryz.prog 5 #[.slice ar n c] w fun e w' => e = .returned (.bool true) ∧ Below w.heap.size w w' :=
  (nulls ar n c ms w hr).mono fun e w' ⟨h1, h2⟩ => ⟨h1, h2.below⟩

set_option maxRecDepth 100000 in
set_option maxHeartbeats 4000000 in
theorem lifted (os : Os) (started : os.Started) (H : Type) (enc : TypeId × Value → H) :
    ReturnsInHanded {} Tryz.checked os 5 .any (Rows.fnXNullsSpec.pre6 enc Tryz.prog Tryz.f5 Rows.fnXNullsRow.domain false) (Rows.fnXNullsSpec.post enc Tryz.prog Tryz.f5 false true false false) := by
  refine returnsInHanded_of_change (C := Tryz.checked) own started (by kernel_rfl) Tryz.func5
    (ChangeSpec.witness6 (enc := enc) (C := Tryz.checked) false ⟨#[], #[.slice none 0 0], []⟩ 8 (by kernel_rfl) (by kernel_rfl) (by kernel_rfl) (by kernel_rfl)) ?_
  intro W base args ds gs before hval0 hW hcnd _
  have hval : ∀ (j : Nat) t v, Tryz.f5.params[j]? = some t → args[j]? = some v → Value.okWide Tryz.prog W .any base t v := hval0
  have hW' := hW
  obtain ⟨p, q, hA0, hV, rfl, hfz, hnd⟩ := hW
  have hA : DataW.TrodAll enc Tryz.prog W 0 (fun _ => true) true Tryz.f5.params.toList args.toList ds p := hA0
  rw [Tryz.params5] at hA hval
  obtain ⟨v0, vs0, d0, ds0, p0, q0, hargs, rfl, rfl, h0, r0⟩ := trodAll_cons hA
  obtain ⟨rfl, rfl, rfl⟩ := trodAll_nil r0
  obtain rfl : args = #[v0] := by cases args; simp_all
  obtain ⟨rfl, rfl⟩ := trodVars_none hV
  have k0 := h0
  have lt0 : ∀ x ∈ p0, x.block < W.heap.size := by obtain ⟨m, hm⟩ := k0; exact DataW.trod_lt m _ _ _ hm
  obtain ⟨a0, len0, cap0, rfl⟩ := okWide_slice Tryz.underlying44 (hval 0 44 v0 rfl rfl)
  obtain ⟨ms, w0⟩ : ∃ ms : List (Bool × ByteArray), View W 2 a0 len0 (ms.flatMap cells_N) := by
    obtain ⟨fuel, hf⟩ := h0
    obtain ⟨ax, l, cx, h1, _, ms, _, h2⟩ := open_N hf
    simp [Value.cells] at h1
    obtain ⟨rfl, rfl, rfl⟩ := h1
    exact ⟨ms, h2⟩
  clear hA0 hval0
  refine (walk a0 len0 cap0 ms W w0).mono fun e W' ⟨he, bel⟩ => ?_
  subst he
  exact ⟨_, rfl, _, _, _, [], _, [], hW', trodAll_mk1 (shut_bool Tryz.underlying4 _), (trodAll_cons_mk (Below.trod laid (by kernel_rfl) (of_decide_eq_true (by kernel_rfl)) k0 bel lt0) trodAll_mk0), rfl, bel.frame _, fun h => by cases h⟩

theorem fNamed : Tryz.prog.funcNamed Rows.fnXNullsRow.func = some 5 := by kernel_rfl
theorem kInPlace : (Rows.fnXNullsRow.inPlace == Program.inPlace Tryz.prog 5) = true := by kernel_rfl
theorem kUnfollowed : (Rows.fnXNullsRow.unfollowed == Program.unfollowed Tryz.prog 5) = true := by kernel_rfl
theorem kRecurses : (Rows.fnXNullsRow.recurses == Program.recurses Tryz.prog 5) = true := by kernel_rfl
theorem kNamed : (Rows.fnXNullsRow.named == Program.varsNamed Tryz.prog 5) = true := by kernel_rfl
set_option maxRecDepth 100000 in
set_option maxHeartbeats 4000000 in
theorem joined : joinedFacts Tryz.prog 5 Tryz.f5 Rows.fnXNullsSpec Rows.fnXNullsRow = true := by
  unfold joinedFacts
  repeat' (with_reducible refine and_mk ?_ ?_)
  all_goals first
    | with_reducible exact laid
    | with_reducible exact fMaps
    | with_reducible exact fKeys
    | with_reducible exact fHeard
    | with_reducible exact fEnter
    | with_reducible exact fLift
    | with_reducible exact fMake
    | with_reducible exact fStops
    | with_reducible exact fKnobs
    | with_reducible exact kInPlace
    | with_reducible exact kUnfollowed
    | with_reducible exact kRecurses
    | with_reducible exact kNamed
    | (as_aux_lemma => kernel_rfl)

set_option maxHeartbeats 4000000 in
theorem over : Rows.fnXNullsRow.holds Tryz.pinned (OpenSpec.ofChange Rows.fnXNullsSpec) :=
  OpenClaim.holds_of_wide 5 Tryz.f5 rfl rfl rfl rfl rfl rfl rfl ⟨rfl, rfl, rfl, rfl, rfl⟩ rfl rfl rfl rfl rfl fNamed Tryz.func5 joined
    (of_decide_eq_true (by kernel_rfl)) (by unfold Func.isWrapper; first | (rw [if_pos (by decide +kernel)]; kernel_rfl) | (rw [if_neg (by decide +kernel)]; exact ⟨rfl, rfl⟩))
    (fun os started H enc _ => lifted os started H enc)
end Go.Proofs.YtpehfhdacgjmpaaGreat.fnXNulls
namespace Go.Proofs.YtpehfhdacgjmpaaGreat
theorem fnXNulls_holds : Rows.FnXNullsSaid := fnXNulls.over
#print axioms fnXNulls_holds
end Go.Proofs.YtpehfhdacgjmpaaGreat
