/- Types that are told apart: ColumnType.Conflicts. -/
import Derived.Test.YtfbohkbpgfnceaaGreatDoorKO
import Derived.Laws.Strings
namespace Go.Proofs.YtfbohkbpgfnceaaGreatDoor
set_option linter.unusedVariables false
set_option linter.unusedSimpArgs false
open Go Go.RowKit
/-- a string without a byte -/
def Without (s : ByteArray) (c : Nat) : Prop := ∀ (i : Nat) (h : i < s.size), s[i].toNat ≠ c
theorem toList_ne0 (s : ByteArray) (h : 0 < s.size) : s.toList.isEmpty = false := by
  rw [ByteArray.toList_eq]
  cases hl : s.data.toList with
  | nil =>
    have : s.data.toList.length = 0 := by rw [hl]; rfl
    rw [Array.length_toList] at this
    have h2 : s.size = s.data.size := rfl
    omega
  | cons a l => rfl
set_option maxRecDepth 100000 in
set_option maxHeartbeats 400000 in
theorem idxNone (s : ByteArray) (c : Nat) (hc : Without s c) (hs : s.size ≤ 100) (w : World) : Calls Tryz.prog 144 #[.string s, .int .u8 c] w fun e w' => e = .returned (.int .i64 (-1)) ∧ w' = w := by
  go_enter Tryz.func144, Tryz.ntmps144
  go_wp2
  go_loopw [5] (fun i wr => ∃ k : Nat, k ≤ s.size ∧ i = .int .i64 k ∧ wr = w) (fun i _ => s.size - (intOf i).toNat)
  case atStart => exact ⟨0, Nat.zero_le _, rfl, rfl⟩
  case round =>
    obtain ⟨k, hk, rfl, rfl⟩ := hrel
    by_cases hlt : k < s.size
    · have hk0 : ((k : Int) < s.size) := by omega
      have hix : ∀ W : World, (Instr.index 9 (.string s) (.int .i64 k)).run Tryz.prog W = .ok (.int .u8 (s[k].toNat : Nat)) W := fun W => by
        rw [run_index_string (P := Tryz.prog) W 9 s .i64 k Tryz.underlying9]
        rw [dif_pos ⟨by omega, hk0⟩]
        simp
      have hne : (((s[k].toNat : Nat) : Int) == (c : Nat)) = false := beq_eq_false_iff_ne.2 (by have := hc k hlt; omega)
      obtain ⟨u, hu⟩ : ∃ u, u = s[k].toNat := ⟨_, rfl⟩
      rw [← hu] at hix hne
      clear hu
      go_wp2
      go_roundw
      case rel => exact ⟨k + 1, by omega, by go_num, trivial⟩
      case measure => simp [intOf]; omega
    · have hk0 : ¬ ((k : Int) < s.size) := by omega
      go_wp2
      go_ret
      exact ⟨rfl, rfl⟩
set_option maxRecDepth 100000 in
set_option maxHeartbeats 400000 in
theorem lastNone (s : ByteArray) (c : Nat) (hc : Without s c) (hs : s.size ≤ 100) (w : World) : Calls Tryz.prog 145 #[.string s, .int .u8 c] w fun e w' => e = .returned (.int .i64 (-1)) ∧ w' = w := by
  have hw1 : IntKind.i64.wrap ((s.size : Int) - 1) = s.size - 1 := IntWalk.i64_in _ (by omega)
  go_enter Tryz.func145, Tryz.ntmps145
  go_wp2
  go_loopw [5] (fun i wr => ∃ k : Nat, k ≤ s.size ∧ i = .int .i64 ((k : Int) - 1) ∧ wr = w) (fun i _ => (intOf i + 1).toNat)
  case atStart => exact ⟨s.size, Nat.le_refl _, rfl, rfl⟩
  case round =>
    obtain ⟨k, hk, rfl, rfl⟩ := hrel
    cases k with
    | succ k =>
      have e1 : (((k + 1 : Nat) : Int) - 1) = k := by omega
      rw [e1]
      have hk0 : (0 : Int) ≤ k := by omega
      have hks : ((k : Int) < s.size) := by omega
      have hlt : k < s.size := by omega
      have hix : ∀ W : World, (Instr.index 9 (.string s) (.int .i64 k)).run Tryz.prog W = .ok (.int .u8 (s[k].toNat : Nat)) W := fun W => by
        rw [run_index_string (P := Tryz.prog) W 9 s .i64 k Tryz.underlying9]
        rw [dif_pos ⟨by omega, hks⟩]
        simp
      have hne : (((s[k].toNat : Nat) : Int) == (c : Nat)) = false := beq_eq_false_iff_ne.2 (by have := hc k hlt; omega)
      have hw2 : IntKind.i64.wrap ((k : Int) - 1) = k - 1 := IntWalk.i64_in _ (by omega)
      obtain ⟨u, hu⟩ : ∃ u, u = s[k].toNat := ⟨_, rfl⟩
      rw [← hu] at hix hne
      clear hu
      go_wp2
      go_roundw
      case rel => exact ⟨k, by omega, by first | rfl | simp | go_num, trivial⟩
      case measure => simp [intOf]
    | zero =>
      go_wp2
      go_ret
      exact ⟨rfl, rfl⟩
set_option maxRecDepth 100000 in
set_option maxHeartbeats 400000 in
theorem baseSelf (s : ByteArray) (h0 : 0 < s.size) (hs : s.size ≤ 100) (h1 : Without s 40) (h2 : Without s 41) (w : World) : Calls Tryz.prog 140 #[.string s] w fun e w' => e = .returned (.string s) ∧ w' = w := by
  have hnz : s.toList.isEmpty = false := toList_ne0 _ h0
  go_enter Tryz.func140, Tryz.ntmps140
  go_wp2_with (first
    | (go_at_call 144; (refine (idxNone s 40 h1 hs _).mono ?_); rintro e w2 ⟨rfl, rfl⟩)
    | (go_at_call 145; (refine (lastNone s 41 h2 hs _).mono ?_); rintro e w2 ⟨rfl, rfl⟩))
  go_ret
  exact ⟨rfl, rfl⟩
def NotE (s : ByteArray) : Prop := ¬ s.toList = [69, 110, 117, 109, 56] ∧ ¬ s.toList = [69, 110, 117, 109, 49, 54] ∧ ¬ s.toList = [68, 101, 99, 105, 109, 97, 108]
set_option maxRecDepth 100000 in
set_option maxHeartbeats 1000000 in
theorem conflicts (s t : ByteArray) (hst : (s.toList == t.toList) = false) (hs : 0 < s.size ∧ s.size ≤ 100 ∧ Without s 40 ∧ Without s 41) (ht : 0 < t.size ∧ t.size ≤ 100 ∧ Without t 40 ∧ Without t 41) (es : NotE s) (et : NotE t) (w : World) :
    Calls Tryz.prog 139 #[.string s, .string t] w fun e w' => e = .returned (.bool true) ∧ Upd [] w w' := by
  obtain ⟨es1, es2, es3⟩ := es
  obtain ⟨et1, et2, et3⟩ := et
  have bes1 := beq_eq_false_iff_ne.2 es1
  have bes2 := beq_eq_false_iff_ne.2 es2
  have bes3 := beq_eq_false_iff_ne.2 es3
  have bet1 := beq_eq_false_iff_ne.2 et1
  have bet2 := beq_eq_false_iff_ne.2 et2
  have bet3 := beq_eq_false_iff_ne.2 et3
  go_enter Tryz.func139, Tryz.ntmps139
  go_wp2_with (first
    | (go_at_call 140; (with_reducible refine (baseSelf s hs.1 hs.2.1 hs.2.2.1 hs.2.2.2 _).mono ?_); rintro e w2 ⟨rfl, rfl⟩)
    | (go_at_call 140; (with_reducible refine (baseSelf t ht.1 ht.2.1 ht.2.2.1 ht.2.2.2 _).mono ?_); rintro e w2 ⟨rfl, rfl⟩))
  go_ret
  exact ⟨rfl, Upd.refl _ _⟩
end Go.Proofs.YtfbohkbpgfnceaaGreatDoor
