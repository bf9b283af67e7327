/- Proved: laws.FnXMaps returns true at every input, and each of its arguments reads afterwards as it read before. Conditions: none. -/
import Derived.Test.YtpehfhdacgjmpaaGreatRows
import Derived.Test.YtpehfhdacgjmpaaGreatMapLaw
import Derived.Test.YtpehfhdacgjmpaaGreatOpens
import Derived.Test.YtpehfhdacgjmpaaGreatFacts
import Derived.ProofKit
import Derived.OpenShut
import Derived.ShutString
import Derived.ChangeOld
import Derived.Below
import Derived.Deep.Slices
namespace Go.Proofs.YtpehfhdacgjmpaaGreat.fnXMaps
open Go.ChangeShapes Go.WideShapes Go.ChangeAt Go.RowKit
open Go.ChangeMaps (open_string shut_string)
set_option linter.unusedVariables false

theorem own : ownKnob Tryz.prog.godebug = none := by kernel_rfl
/-- a slice of slices of pairs that came in -/
theorem open_pss {H : Type} {enc : TypeId × Value → H} {w : World} {base : Nat} {spare : Nat → Bool} {held : Bool} {fuel : Nat} {cs : List Value} {x : DataW H × List MemPlace}
    (h : DataW.trod enc Tryz.prog w base spare held fuel 56 cs = some x) : ∃ ax l cx, cs = [.slice ax l cx] ∧ l ≤ 9223372036854775807 ∧ ∃ vs pss, View w 1 ax l vs ∧ PairsV w l vs pss := by
  rcases Deep.open_slice1 Tryz.underlying56 (by kernel_rfl) h with ⟨rfl, _⟩ | ⟨a, l, c, m, n, V, D, Pl, rfl, _, hl, hm, hmm, _, hx⟩
  · exact ⟨none, 0, 0, rfl, by omega, [], [], View.nil, ⟨rfl, rfl, fun k hk => by omega⟩⟩
  · have hlm : l ≤ m := by rw [hmm]; split <;> omega
    obtain ⟨f, hf⟩ := Deep.choose_lt (α := List Pr) (p := fun i ss => ∃ ax cx, V i = .slice ax ss.length cx ∧ ss.length ≤ cx ∧ View w 2 ax ss.length (ss.flatMap cells_M)) (n := l) (fun i hi => by
      obtain ⟨_, h2⟩ := hx i (by omega)
      obtain ⟨ax, l2, cx, h3, h6, ss, h4, h5⟩ := open_M h2
      simp only [List.cons.injEq, and_true] at h3
      subst h4
      exact ⟨ss, ax, cx, h3, h6, h5⟩)
    refine ⟨some a, l, c, rfl, by unfold maxLen at hm; omega, (List.range l).map V, (List.range l).map f, ⟨by simp, fun hn => ?_⟩, ⟨by simp, by simp, fun k hk => ?_⟩⟩
    · obtain ⟨b, o, spot⟩ := a
      have h0 := (hx 0 (by omega)).1
      obtain rfl : spot = none := by simpa [Addr.add] using World.cell?_spot h0
      refine ⟨b, o, rfl, fun j v hj => ?_, World.block_lt_of_cell? w _ h0⟩
      have hjl : j < l := by have := (List.getElem?_eq_some_iff.1 hj).1; simpa using this
      have h1 := (hx j (by omega)).1
      rw [Addr.add_mid] at h1
      rw [h1]
      simp [hjl] at hj
      rw [hj]
    · obtain ⟨ax, cx, h1, h3, h2⟩ := hf k hk
      exact ⟨ax, cx, by simp [hk, h1], by simpa using h3, by simpa using h2⟩
theorem walk (ar : Option Addr) (n c : Nat) (vs : List Value) (pss : List (List Pr)) (w : World) (hr : View w 1 ar n vs) (hP : PairsV w n vs pss) :
    Calls Tryz.prog 7 #[.slice ar n c] w fun e w' => e = .returned (.bool true) ∧ Below w.heap.size w w' :=
  (maps_law ar n c vs pss w hr hP).mono fun e w' ⟨h1, h2⟩ => ⟨h1, h2.below⟩

set_option maxRecDepth 100000 in
set_option maxHeartbeats 4000000 in
theorem lifted (os : Os) (started : os.Started) (H : Type) (enc : TypeId × Value → H) :
    ReturnsInHanded {} Tryz.checked os 7 .any (Rows.fnXMapsSpec.pre6 enc Tryz.prog Tryz.f7 Rows.fnXMapsRow.domain false) (Rows.fnXMapsSpec.post enc Tryz.prog Tryz.f7 false true false false) := by
  refine returnsInHanded_of_change (C := Tryz.checked) own started (by kernel_rfl) Tryz.func7
    (ChangeSpec.witness6 (enc := enc) (C := Tryz.checked) false ⟨#[], #[.slice none 0 0], []⟩ 8 (by kernel_rfl) (by kernel_rfl) (by kernel_rfl) (by kernel_rfl)) ?_
  intro W base args ds gs before hval0 hW hcnd _
  have hval : ∀ (j : Nat) t v, Tryz.f7.params[j]? = some t → args[j]? = some v → Value.okWide Tryz.prog W .any base t v := hval0
  have hW' := hW
  obtain ⟨p, q, hA0, hV, rfl, hfz, hnd⟩ := hW
  have hA : DataW.TrodAll enc Tryz.prog W 0 (fun _ => true) true Tryz.f7.params.toList args.toList ds p := hA0
  rw [Tryz.params7] at hA hval
  obtain ⟨v0, vs0, d0, ds0, p0, q0, hargs, rfl, rfl, h0, r0⟩ := trodAll_cons hA
  obtain ⟨rfl, rfl, rfl⟩ := trodAll_nil r0
  obtain rfl : args = #[v0] := by cases args; simp_all
  obtain ⟨rfl, rfl⟩ := trodVars_none hV
  have k0 := h0
  have lt0 : ∀ x ∈ p0, x.block < W.heap.size := by obtain ⟨m, hm⟩ := k0; exact DataW.trod_lt m _ _ _ hm
  obtain ⟨a0, len0, cap0, rfl⟩ := okWide_slice Tryz.underlying56 (hval 0 56 v0 rfl rfl)
  obtain ⟨b0, vs, pss, w0, s0⟩ : len0 ≤ 9223372036854775807 ∧ ∃ vs pss, View W 1 a0 len0 vs ∧ PairsV W len0 vs pss := by
    obtain ⟨fuel, hf⟩ := h0
    obtain ⟨ax, l, cx, h1, h2⟩ := open_pss hf
    simp [Value.cells] at h1
    obtain ⟨rfl, rfl, rfl⟩ := h1
    exact h2
  clear hA0 hval0
  refine (walk a0 len0 cap0 vs pss W w0 s0).mono fun e W' ⟨he, bel⟩ => ?_
  subst he
  exact ⟨_, rfl, _, _, _, [], _, [], hW', trodAll_mk1 (shut_bool Tryz.underlying4 _), (trodAll_cons_mk (Below.trod laid (by kernel_rfl) (of_decide_eq_true (by kernel_rfl)) k0 bel lt0) trodAll_mk0), rfl, bel.frame _, fun h => by cases h⟩

theorem fNamed : Tryz.prog.funcNamed Rows.fnXMapsRow.func = some 7 := by kernel_rfl
theorem kInPlace : (Rows.fnXMapsRow.inPlace == Program.inPlace Tryz.prog 7) = true := by kernel_rfl
theorem kUnfollowed : (Rows.fnXMapsRow.unfollowed == Program.unfollowed Tryz.prog 7) = true := by kernel_rfl
theorem kRecurses : (Rows.fnXMapsRow.recurses == Program.recurses Tryz.prog 7) = true := by kernel_rfl
theorem kNamed : (Rows.fnXMapsRow.named == Program.varsNamed Tryz.prog 7) = true := by kernel_rfl
set_option maxRecDepth 100000 in
set_option maxHeartbeats 4000000 in
theorem joined : joinedFacts Tryz.prog 7 Tryz.f7 Rows.fnXMapsSpec Rows.fnXMapsRow = true := by
  unfold joinedFacts
  repeat' (with_reducible refine and_mk ?_ ?_)
  all_goals first
    | with_reducible exact laid
    | with_reducible exact fMaps
    | with_reducible exact fKeys
    | with_reducible exact fHeard
    | with_reducible exact fEnter
    | with_reducible exact fLift
    | with_reducible exact fMake
    | with_reducible exact fStops
    | with_reducible exact fKnobs
    | with_reducible exact kInPlace
    | with_reducible exact kUnfollowed
    | with_reducible exact kRecurses
    | with_reducible exact kNamed
    | (as_aux_lemma => kernel_rfl)

set_option maxHeartbeats 4000000 in
theorem over : Rows.fnXMapsRow.holds Tryz.pinned (OpenSpec.ofChange Rows.fnXMapsSpec) :=
  OpenClaim.holds_of_wide 7 Tryz.f7 rfl rfl rfl rfl rfl rfl rfl ⟨rfl, rfl, rfl, rfl, rfl⟩ rfl rfl rfl rfl rfl fNamed Tryz.func7 joined
    (of_decide_eq_true (by kernel_rfl)) (by unfold Func.isWrapper; first | (rw [if_pos (by decide +kernel)]; kernel_rfl) | (rw [if_neg (by decide +kernel)]; exact ⟨rfl, rfl⟩))
    (fun os started H enc _ => lifted os started H enc)
end Go.Proofs.YtpehfhdacgjmpaaGreat.fnXMaps
namespace Go.Proofs.YtpehfhdacgjmpaaGreat
theorem fnXMaps_holds : Rows.FnXMapsSaid := fnXMaps.over
#print axioms fnXMaps_holds
end Go.Proofs.YtpehfhdacgjmpaaGreat
