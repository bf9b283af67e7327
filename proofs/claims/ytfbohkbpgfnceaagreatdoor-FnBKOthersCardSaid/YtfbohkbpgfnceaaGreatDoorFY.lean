/- The twelve types of integers are told apart, each from the next. -/
import Derived.Test.YtfbohkbpgfnceaaGreatDoorFX
import Derived.Test.YtfbohkbpgfnceaaGreatDoorFC
namespace Go.Proofs.YtfbohkbpgfnceaaGreatDoor
set_option linter.unusedVariables false
set_option linter.unusedSimpArgs false
open Go Go.RowKit
theorem without_of (s : ByteArray) (c : Nat) (h : s.data.toList.all (fun b => b.toNat != c) = true) : Without s c := fun i hi => by
  have := List.all_eq_true.1 h s[i] (by show s.data[i] ∈ s.data.toList; first | exact Array.mem_toList_iff.2 (Array.getElem_mem _) | simp)
  simpa using this
/-- what is asked of a type's name -/
def okT (s : ByteArray) : Bool := decide (0 < s.size) && decide (s.size ≤ 100) && s.data.toList.all (fun b => b.toNat != 40) && s.data.toList.all (fun b => b.toNat != 41) && !(s.data.toList == [69, 110, 117, 109, 56]) && !(s.data.toList == [69, 110, 117, 109, 49, 54]) && !(s.data.toList == [68, 101, 99, 105, 109, 97, 108])
theorem okT_of {s : ByteArray} (h : okT s = true) : (0 < s.size ∧ s.size ≤ 100 ∧ Without s 40 ∧ Without s 41) ∧ NotE s := by
  unfold okT at h
  simp only [Bool.and_eq_true, decide_eq_true_eq, Bool.not_eq_true', beq_eq_false_iff_ne, ne_eq] at h
  obtain ⟨⟨⟨⟨⟨⟨h1, h2⟩, h3⟩, h4⟩, h5⟩, h6⟩, h7⟩ := h
  refine ⟨⟨h1, h2, without_of s 40 h3, without_of s 41 h4⟩, ?_⟩
  unfold NotE
  rw [ByteArray.toList_eq]
  exact ⟨h5, h6, h7⟩
theorem clash_of {s t : ByteArray} (hs : okT s = true) (ht : okT t = true) (hst : (s.data.toList == t.data.toList) = false) : Clash s t := fun w =>
  conflicts s t (by rw [ByteArray.toList_eq, ByteArray.toList_eq]; exact hst) (okT_of hs).1 (okT_of ht).1 (okT_of hs).2 (okT_of ht).2 w
theorem clash_next (k : Int) (h1 : 1 ≤ k) (h2 : k ≤ 12) : Clash (kd k).name (kd (1 + k % 12)).name := by
  have h : k = 1 ∨ k = 2 ∨ k = 3 ∨ k = 4 ∨ k = 5 ∨ k = 6 ∨ k = 7 ∨ k = 8 ∨ k = 9 ∨ k = 10 ∨ k = 11 ∨ k = 12 := by omega
  rcases h with rfl | rfl | rfl | rfl | rfl | rfl | rfl | rfl | rfl | rfl | rfl | rfl
  · exact (clash_of (s := K_i8.name) (t := K_i16.name) (by kernel_rfl) (by kernel_rfl) (by kernel_rfl) : Clash K_i8.name K_i16.name)
  · exact (clash_of (s := K_i16.name) (t := K_i32.name) (by kernel_rfl) (by kernel_rfl) (by kernel_rfl) : Clash K_i16.name K_i32.name)
  · exact (clash_of (s := K_i32.name) (t := K_i64.name) (by kernel_rfl) (by kernel_rfl) (by kernel_rfl) : Clash K_i32.name K_i64.name)
  · exact (clash_of (s := K_i64.name) (t := K_i128.name) (by kernel_rfl) (by kernel_rfl) (by kernel_rfl) : Clash K_i64.name K_i128.name)
  · exact (clash_of (s := K_i128.name) (t := K_i256.name) (by kernel_rfl) (by kernel_rfl) (by kernel_rfl) : Clash K_i128.name K_i256.name)
  · exact (clash_of (s := K_i256.name) (t := K_u8.name) (by kernel_rfl) (by kernel_rfl) (by kernel_rfl) : Clash K_i256.name K_u8.name)
  · exact (clash_of (s := K_u8.name) (t := K_u16.name) (by kernel_rfl) (by kernel_rfl) (by kernel_rfl) : Clash K_u8.name K_u16.name)
  · exact (clash_of (s := K_u16.name) (t := K_u32.name) (by kernel_rfl) (by kernel_rfl) (by kernel_rfl) : Clash K_u16.name K_u32.name)
  · exact (clash_of (s := K_u32.name) (t := K_u64.name) (by kernel_rfl) (by kernel_rfl) (by kernel_rfl) : Clash K_u32.name K_u64.name)
  · exact (clash_of (s := K_u64.name) (t := K_u128.name) (by kernel_rfl) (by kernel_rfl) (by kernel_rfl) : Clash K_u64.name K_u128.name)
  · exact (clash_of (s := K_u128.name) (t := K_u256.name) (by kernel_rfl) (by kernel_rfl) (by kernel_rfl) : Clash K_u128.name K_u256.name)
  · exact (clash_of (s := K_u256.name) (t := K_i8.name) (by kernel_rfl) (by kernel_rfl) (by kernel_rfl) : Clash K_u256.name K_i8.name)
theorem name128 (k : Int) (h1 : 1 ≤ k) (h2 : k ≤ 18) : 0 < (kd k).name.size ∧ (kd k).name.size < 128 := by
  have := (kd_ok k h1 h2).1.nm
  omega
end Go.Proofs.YtfbohkbpgfnceaaGreatDoor
