/- Proved: laws.FnXFixed returns true at every input, and each of its arguments reads afterwards as it read before. Conditions: none. -/
import Derived.Test.YtpehfhdacgjmpaaGreatRows
import Derived.Test.YtpehfhdacgjmpaaGreatFixWalk
import Derived.Test.YtpehfhdacgjmpaaGreatFacts
import Derived.ProofKit
import Derived.OpenShut
import Derived.ShutString
import Derived.ChangeOld
import Derived.Below
import Derived.Deep.Slices
namespace Go.Proofs.YtpehfhdacgjmpaaGreat.fnXFixed
open Go.ChangeShapes Go.WideShapes Go.ChangeAt Go.RowKit
open Go.ChangeMaps (open_string shut_string)
set_option linter.unusedVariables false

theorem own : ownKnob Tryz.prog.godebug = none := by kernel_rfl
instance : Inhabited R4 := ⟨⟨0, 0, 0, 0⟩⟩

theorem view_rows {w : World} {a : Addr} {len : Nat} (f : Nat → R4) (hc : ∀ i, i < len → ∀ j, j < 4 → w.cell? (a.add (i * 4 + j)) = (f i).cells[j]?) :
    View w 4 (some a) len (((List.range len).map f).flatMap R4.cells) := by
  refine ⟨by rw [flatMap_len _ 4 R4.cells_len]; simp, fun hn => ?_⟩
  obtain ⟨b, o, spot⟩ := a
  have h0 : w.cell? ((⟨b, o, spot⟩ : Addr).add 0) = some (.int .u64 (f 0).a) := hc 0 hn 0 (by omega)
  obtain rfl : spot = none := by simpa [Addr.add] using World.cell?_spot h0
  refine ⟨b, o, rfl, fun j v hj => ?_, ?_⟩
  · have hjl : j < len * 4 := by
      have := (List.getElem?_eq_some_iff.1 hj).1
      rw [flatMap_len _ 4 R4.cells_len] at this
      simpa using this
    have h1 := rows_get ((List.range len).map f) (j / 4) (by simp; omega) (j % 4) (by omega)
    rw [show j / 4 * 4 + j % 4 = j by omega, hj] at h1
    have h2 := hc (j / 4) (by omega) (j % 4) (by omega)
    rw [show j / 4 * 4 + j % 4 = j by omega, Addr.add_mid] at h2
    rw [h2, h1]
    simp
  · exact World.block_lt_of_cell? w _ h0

theorem open_rows {H : Type} {enc : TypeId × Value → H} {w : World} {base : Nat} {spare : Nat → Bool} {held : Bool} {fuel : Nat} {cs : List Value} {x : DataW H × List MemPlace}
    (h : DataW.trod enc Tryz.prog w base spare held fuel 22 cs = some x) {ao : Option Addr} {len cap : Nat} (hcs : cs = [.slice ao len cap]) : ∃ rs : List R4, View w 4 ao len (rs.flatMap R4.cells) := by
  rcases Deep.open_slice Tryz.underlying22 h with ⟨rfl, _⟩ | ⟨a, l, c, m, n, D, Pl, rfl, _, hl, hm, hmm, _, hx⟩
  · simp only [List.cons.injEq, Value.slice.injEq, and_true] at hcs
    obtain ⟨rfl, rfl, rfl⟩ := hcs
    exact ⟨[], View.nil⟩
  · simp only [List.cons.injEq, Value.slice.injEq, and_true] at hcs
    obtain ⟨rfl, rfl, rfl⟩ := hcs
    have hlm : l ≤ m := by rw [hmm]; split <;> omega
    have c4 : Tryz.prog.cellsOf 28 = 4 := by kernel_rfl
    have c1 : Tryz.prog.cellsOf 26 = 1 := by kernel_rfl
    rw [c4] at hx
    obtain ⟨f, hf⟩ := Deep.choose_lt (α := R4) (p := fun i r => ∀ j, j < 4 → w.cell? (a.add (i * 4 + j)) = r.cells[j]?) (n := l) (fun i hi => by
      obtain ⟨cs', h1, h2⟩ := hx i (by omega)
      obtain ⟨_, h3, h4⟩ := World.cells?_some h1
      obtain ⟨xs, k, _, _, h5, h6, h7⟩ := DataW.trod_array Tryz.underlying28 h2
      have hint : ∀ j, j < 4 → ∃ q : Int, cs'[j]? = some (.int .u64 q) := fun j hj => by
        have h8 := h7 j hj
        rw [c1, Nat.mul_one] at h8
        obtain ⟨y, hy⟩ : ∃ y, xs[j]? = some y := ⟨xs[j]'(by omega), by simp [h6, hj]⟩
        rw [hy] at h8
        obtain ⟨q, h9, _⟩ := DataW.trod_int Tryz.underlying26 h8
        refine ⟨q, ?_⟩
        have : ((cs'.drop j).take 1)[0]? = some (.int .u64 q) := by rw [h9]; rfl
        simpa using this
      obtain ⟨q0, e0⟩ := hint 0 (by omega)
      obtain ⟨q1, e1⟩ := hint 1 (by omega)
      obtain ⟨q2, e2⟩ := hint 2 (by omega)
      obtain ⟨q3, e3⟩ := hint 3 (by omega)
      refine ⟨⟨q0, q1, q2, q3⟩, fun j hj => ?_⟩
      have h8 := h4 j hj
      rw [Deep.add_add] at h8
      rw [h8]
      match j, hj with
      | 0, _ => exact e0
      | 1, _ => exact e1
      | 2, _ => exact e2
      | 3, _ => exact e3)
    exact ⟨(List.range l).map f, view_rows f hf⟩

theorem walk (ar : Option Addr) (n c : Nat) (long : Bool) (rs : List R4) (w : World) (hr : View w 4 ar n (rs.flatMap R4.cells)) (hn : n ≤ 9223372036854775807) :
    Calls Tryz.prog 3 #[.slice ar n c, .bool long] w fun e w' => e = .returned (.bool true) ∧ Below w.heap.size w w' := by
  by_cases h : 40 < n
  · exact (fixed_many ar n c long w h hn).mono fun e w' ⟨h1, h2⟩ => ⟨h1, h2.below⟩
  · cases long
    · exact (fixed_false ar n c rs w hr (by omega)).mono fun e w' ⟨h1, h2⟩ => ⟨h1, h2.below⟩
    · exact (fixed_true ar n c rs w hr (by omega)).mono fun e w' ⟨h1, h2⟩ => ⟨h1, h2.below⟩

set_option maxRecDepth 100000 in
theorem lifted (os : Os) (started : os.Started) (H : Type) (enc : TypeId × Value → H) :
    ReturnsInHanded {} Tryz.checked os 3 .any (Rows.fnXFixedSpec.pre6 enc Tryz.prog Tryz.f3 Rows.fnXFixedRow.domain false) (Rows.fnXFixedSpec.post enc Tryz.prog Tryz.f3 false true false false) := by
  refine returnsInHanded_of_change (C := Tryz.checked) own started (by kernel_rfl) Tryz.func3
    (ChangeSpec.witness6 (enc := enc) (C := Tryz.checked) false ⟨#[], #[.slice none 0 0, .bool false], []⟩ 8 (by kernel_rfl) (by kernel_rfl) (by kernel_rfl) (by kernel_rfl)) ?_
  intro W base args ds gs before hval0 hW hcnd _
  have hval : ∀ (j : Nat) t v, Tryz.f3.params[j]? = some t → args[j]? = some v → Value.okWide Tryz.prog W .any base t v := hval0
  have hW' := hW
  obtain ⟨p, q, hA0, hV, rfl, hfz, hnd⟩ := hW
  have hA : DataW.TrodAll enc Tryz.prog W 0 (fun _ => true) true Tryz.f3.params.toList args.toList ds p := hA0
  rw [Tryz.params3] at hA hval
  obtain ⟨v0, vs0, d0, ds0, p0, q0, hargs, rfl, rfl, h0, r0⟩ := trodAll_cons hA
  obtain ⟨v1, vs1, d1, ds1, p1, q1, rfl, rfl, rfl, h1, r1⟩ := trodAll_cons r0
  obtain ⟨rfl, rfl, rfl⟩ := trodAll_nil r1
  obtain rfl : args = #[v0, v1] := by cases args; simp_all
  obtain ⟨rfl, rfl⟩ := trodVars_none hV
  obtain ⟨a0, len0, cap0, rfl⟩ := okWide_slice Tryz.underlying22 (hval 0 22 v0 rfl rfl)
  have k0 := h0
  have lt0 : ∀ x ∈ p0, x.block < W.heap.size := by obtain ⟨m, hm⟩ := k0; exact DataW.trod_lt m _ _ _ hm
  obtain ⟨rs, w0⟩ : ∃ rs : List R4, View W 4 a0 len0 (rs.flatMap R4.cells) := by
    obtain ⟨fuel, hf⟩ := h0
    exact open_rows (ao := a0) (len := len0) (cap := cap0) hf (by simp [Value.cells])
  have b0 : len0 ≤ 9223372036854775807 := by
    obtain ⟨fuel, hf⟩ := h0
    rcases Deep.open_slice Tryz.underlying22 hf with ⟨hcs, _⟩ | ⟨a, l, c, m, n, D, Pl, hcs, _, hl, hm, _⟩
    · simp [Value.cells] at hcs
      omega
    · simp [Value.cells] at hcs
      unfold maxLen at hm
      omega
  obtain ⟨a1, rfl, rfl, rfl⟩ := open_bool Tryz.underlying4 (hval 1 4 v1 rfl rfl) h1
  clear hA0 hval0
  refine (walk a0 len0 cap0 a1 rs W w0 b0).mono fun e W' ⟨he, bel⟩ => ?_
  subst he
  exact ⟨_, rfl, _, _, _, [], _, [], hW', trodAll_mk1 (shut_bool Tryz.underlying4 _), (trodAll_cons_mk (Below.trod laid (by kernel_rfl) (of_decide_eq_true (by kernel_rfl)) k0 bel lt0) (trodAll_cons_mk (shut_bool Tryz.underlying4 _) trodAll_mk0)), rfl, bel.frame _, fun h => by cases h⟩

theorem fNamed : Tryz.prog.funcNamed Rows.fnXFixedRow.func = some 3 := by kernel_rfl
theorem kInPlace : (Rows.fnXFixedRow.inPlace == Program.inPlace Tryz.prog 3) = true := by kernel_rfl
theorem kUnfollowed : (Rows.fnXFixedRow.unfollowed == Program.unfollowed Tryz.prog 3) = true := by kernel_rfl
theorem kRecurses : (Rows.fnXFixedRow.recurses == Program.recurses Tryz.prog 3) = true := by kernel_rfl
theorem kNamed : (Rows.fnXFixedRow.named == Program.varsNamed Tryz.prog 3) = true := by kernel_rfl
set_option maxRecDepth 100000 in
theorem joined : joinedFacts Tryz.prog 3 Tryz.f3 Rows.fnXFixedSpec Rows.fnXFixedRow = true := by
  unfold joinedFacts
  repeat' (with_reducible refine and_mk ?_ ?_)
  all_goals first
    | with_reducible exact laid
    | with_reducible exact fMaps
    | with_reducible exact fKeys
    | with_reducible exact fHeard
    | with_reducible exact fEnter
    | with_reducible exact fLift
    | with_reducible exact fMake
    | with_reducible exact fStops
    | with_reducible exact fKnobs
    | with_reducible exact kInPlace
    | with_reducible exact kUnfollowed
    | with_reducible exact kRecurses
    | with_reducible exact kNamed
    | (as_aux_lemma => kernel_rfl)

theorem over : Rows.fnXFixedRow.holds Tryz.pinned (OpenSpec.ofChange Rows.fnXFixedSpec) :=
  OpenClaim.holds_of_wide 3 Tryz.f3 rfl rfl rfl rfl rfl rfl rfl ⟨rfl, rfl, rfl, rfl, rfl⟩ rfl rfl rfl rfl rfl fNamed Tryz.func3 joined
    (of_decide_eq_true (by kernel_rfl)) (by unfold Func.isWrapper; first | (rw [if_pos (by decide +kernel)]; kernel_rfl) | (rw [if_neg (by decide +kernel)]; exact ⟨rfl, rfl⟩))
    (fun os started H enc _ => lifted os started H enc)
end Go.Proofs.YtpehfhdacgjmpaaGreat.fnXFixed
namespace Go.Proofs.YtpehfhdacgjmpaaGreat
theorem fnXFixed_holds : Rows.FnXFixedSaid := fnXFixed.over
#print axioms fnXFixed_holds
end Go.Proofs.YtpehfhdacgjmpaaGreat
