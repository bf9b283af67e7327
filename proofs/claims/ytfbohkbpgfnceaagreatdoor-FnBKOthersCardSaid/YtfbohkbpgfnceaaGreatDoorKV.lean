/- What a kind keeps of a row, as the specification tells it. -/
import Derived.Test.YtfbohkbpgfnceaaGreatDoorKU
import Derived.StillTailTactics
namespace Go.Proofs.YtfbohkbpgfnceaaGreatDoor
set_option linter.unusedVariables false
set_option linter.unusedSimpArgs false
open Go Go.RowKit
/-- the lowest bytes of a word -/
def mw (x : Int) : Nat → Int
  | 0 => 0
  | 1 => x % 256
  | 2 => x % 65536
  | 3 => x % 16777216
  | 4 => x % 4294967296
  | 5 => x % 1099511627776
  | 6 => x % 281474976710656
  | 7 => x % 72057594037927936
  | 8 => x % 18446744073709551616
  | _ => x
/-- the lowest bytes of a row -/
def mrow (r : R4) (W : Nat) : R4 := ⟨mw r.a (min W 8), mw r.b (min (W - 8) 8), mw r.c (min (W - 16) 8), mw r.d (min (W - 24) 8)⟩
/-- how many bytes a row of each kind has -/
def widths : List Int := [0, 1, 2, 4, 8, 16, 32, 1, 2, 4, 8, 16, 32, 4, 8, 2, 1, 4, 16, 16, 1, 2]
/-- the table of widths stands where it stood -/
def Wds (w : World) : Prop := ∀ i : Nat, i < 22 → w.cell? ⟨0, i, none⟩ = some (.int .i64 (widths.getD i 0))
theorem Wds.upd {w w' : World} (h : Wds w) (hu : Upd [] w w') : Wds w' := fun i hi => hu.cell1 (h i hi) (by simp)
set_option maxRecDepth 100000 in
set_option maxHeartbeats 400000 in
theorem ncWidth (n : Nat) (hn : n < 22) (w : World) (hw : Wds w) : Calls Tryz.prog 19 #[.int .i64 n] w fun e w' => e = .returned (.int .i64 (widths.getD n 0)) ∧ w' = w := by
  have hc := hw n hn
  have h1 : ¬ (n : Int) < 0 := by omega
  have h2 : ¬ (22 : Int) ≤ n := by omega
  have h3 : (n : Int) < 22 := by omega
  go_enter Tryz.func19, Tryz.ntmps19
  go_wp2
  go_ret
  exact ⟨rfl, rfl⟩
theorem nat_and_mask (x n : Nat) : x &&& (255 * 2 ^ n) = (x / 2 ^ n % 256) * 2 ^ n := by
  apply Nat.eq_of_testBit_eq
  intro i
  rw [← Nat.shiftLeft_eq, ← Nat.shiftLeft_eq, Nat.testBit_and, Nat.testBit_shiftLeft, Nat.testBit_shiftLeft]
  have h1 : Nat.testBit 255 (i - n) = decide (i - n < 8) := Nat.testBit_two_pow_sub_one 8 (i - n)
  have h2 : Nat.testBit (x / 2 ^ n % 256) (i - n) = (decide (i - n < 8) && Nat.testBit (x / 2 ^ n) (i - n)) := Nat.testBit_mod_two_pow (x / 2 ^ n) 8 (i - n)
  rw [h1, h2, Nat.testBit_div_two_pow]
  by_cases h : n ≤ i
  · rw [show i - n + n = i by omega]
    simp [h, Bool.and_comm]
  · simp [h]
theorem and_mask (x : Int) (n M : Nat) (hM : M = 255 * 2 ^ n) (h0 : 0 ≤ x) (h1 : x < 18446744073709551616) (hM1 : M < 18446744073709551616) : bits .and .u64 x M = (x / (2 ^ n : Nat) % 256) * (2 ^ n : Nat) := by
  obtain ⟨y, rfl⟩ := Int.eq_ofNat_of_zero_le h0
  rw [u64_and y M (by omega) (by omega) (by omega) (by omega)]
  subst hM
  have := nat_and_mask y n
  simp only [Int.toNat_natCast]
  rw [this]
  simp
end Go.Proofs.YtfbohkbpgfnceaaGreatDoor
