/- spec.NCRow: what each kind keeps of a row. -/
import Derived.Test.YtfbohkbpgfnceaaGreatDoorKZ
namespace Go.Proofs.YtfbohkbpgfnceaaGreatDoor
set_option linter.unusedVariables false
set_option linter.unusedSimpArgs false
open Go Go.RowKit
theorem and_ffff (x : Int) (h0 : 0 ≤ x) (h1 : x < 4294967296) : bits .and .u32 x 65535 = x % 65536 := by
  obtain ⟨y, rfl⟩ := Int.eq_ofNat_of_zero_le h0
  rw [u32_and _ 65535 h0 h1 (by decide) (by decide)]
  have := Nat.and_two_pow_sub_one_eq_mod y 16
  simp only [Int.toNat_natCast]
  have h2 : (65535 : Int).toNat = 2 ^ 16 - 1 := rfl
  rw [h2, this]
  omega
theorem bf_parts (q r l : Int) (hq : 0 ≤ q ∧ q < 65536) (hr : 0 ≤ r ∧ r < 65536) (hl : 0 ≤ l ∧ l < 2) (h : 65536 ≤ r + 32767 + l) : (65536 * q + r + (32767 + l)) % 4294967296 / 65536 = (q + 1) % 65536 := by
  by_cases hq1 : q = 65535
  · subst hq1
    have : (65536 * (65535 : Int) + r + (32767 + l)) % 4294967296 = r + 32767 + l - 65536 := by omega
    rw [this]
    omega
  · have : (65536 * q + r + (32767 + l)) % 4294967296 = 65536 * q + r + (32767 + l) := by omega
    rw [this]
    omega
theorem bf_parts' (q r l : Int) (hq : 0 ≤ q ∧ q < 65536) (hr : 0 ≤ r ∧ r < 65536) (hl : 0 ≤ l ∧ l < 2) (h : ¬ 65536 ≤ r + 32767 + l) : (65536 * q + r + (32767 + l)) % 4294967296 / 65536 = q % 65536 := by
  have : (65536 * q + r + (32767 + l)) % 4294967296 = 65536 * q + r + (32767 + l) := by omega
  rw [this]
  omega
theorem bfR_up (x : Int) (h0 : 0 ≤ x) (h1 : x < 4294967296) (h : 32768 < x % 65536 ∨ (x % 65536 = 32768 ∧ x / 65536 % 2 = 1)) : bfR x.toNat = (x / 65536 + 1) % 65536 := by
  obtain ⟨y, rfl⟩ := Int.eq_ofNat_of_zero_le h0
  have hp := bf_parts ((y : Int) / 65536) (y % 65536) ((y : Int) / 65536 % 2) (by omega) (by omega) (by omega) (by omega)
  have hy : 65536 * ((y : Int) / 65536) + y % 65536 = y := by omega
  rw [hy] at hp
  unfold bfR
  simp only [Int.toNat_natCast]
  exact hp
theorem bfR_down (x : Int) (h0 : 0 ≤ x) (h1 : x < 4294967296) (h : ¬ 32768 < x % 65536) (h' : ¬ (x % 65536 = 32768 ∧ x / 65536 % 2 = 1)) : bfR x.toNat = (x / 65536) % 65536 := by
  obtain ⟨y, rfl⟩ := Int.eq_ofNat_of_zero_le h0
  have hp := bf_parts' ((y : Int) / 65536) (y % 65536) ((y : Int) / 65536 % 2) (by omega) (by omega) (by omega) (by omega)
  have hy : 65536 * ((y : Int) / 65536) + y % 65536 = y := by omega
  rw [hy] at hp
  unfold bfR
  simp only [Int.toNat_natCast]
  exact hp
theorem r4 {a b c d a' b' c' d' : Int} (h1 : a = a') (h2 : b = b') (h3 : c = c') (h4 : d = d') : (⟨a, b, c, d⟩ : R4) = ⟨a', b', c', d'⟩ := by subst h1 h2 h3 h4; rfl
theorem mw8 {x : Int} (h : 0 ≤ x ∧ x < 18446744073709551616) : x = mw x 8 := by show x = x % 18446744073709551616; omega
theorem keptm_i8 (r : R4) (hr : Ok4 r) : kept_i8 r = mrow r 1 := r4 (by show (IntKind.i8.wrap r.a) % 256 = r.a % 256 <;> rw [wrap_i8] <;> omega) rfl rfl rfl
theorem keptm_i16 (r : R4) (hr : Ok4 r) : kept_i16 r = mrow r 2 := r4 (by show (IntKind.i16.wrap r.a) % 65536 = r.a % 65536 <;> rw [wrap_i16] <;> omega) rfl rfl rfl
theorem keptm_i32 (r : R4) (hr : Ok4 r) : kept_i32 r = mrow r 4 := r4 (by show (IntKind.i32.wrap r.a) % 4294967296 = r.a % 4294967296 <;> rw [IntKind.wrap_i32] <;> omega) rfl rfl rfl
theorem keptm_i64 (r : R4) (hr : Ok4 r) : kept_i64 r = mrow r 8 := r4 (by show (IntKind.i64.wrap r.a) % 18446744073709551616 = r.a % 18446744073709551616 <;> rw [IntKind.wrap_i64] <;> omega) rfl rfl rfl
theorem keptm_i128 (r : R4) (hr : Ok4 r) : kept_i128 r = mrow r 16 := r4 (mw8 hr.1) (mw8 hr.2.1) rfl rfl
theorem keptm_i256 (r : R4) (hr : Ok4 r) : kept_i256 r = mrow r 32 := r4 (mw8 hr.1) (mw8 hr.2.1) (mw8 hr.2.2.1) (mw8 hr.2.2.2)
theorem keptm_u8 (r : R4) (hr : Ok4 r) : kept_u8 r = mrow r 1 := r4 (by show IntKind.u8.wrap r.a = r.a % 256 <;> rw [wrap_u8]) rfl rfl rfl
theorem keptm_u16 (r : R4) (hr : Ok4 r) : kept_u16 r = mrow r 2 := r4 (by show IntKind.u16.wrap r.a = r.a % 65536 <;> rw [IntKind.wrap_u16]) rfl rfl rfl
theorem keptm_u32 (r : R4) (hr : Ok4 r) : kept_u32 r = mrow r 4 := r4 (by show IntKind.u32.wrap r.a = r.a % 4294967296 <;> rw [IntKind.wrap_u32]) rfl rfl rfl
theorem keptm_u64 (r : R4) (hr : Ok4 r) : kept_u64 r = mrow r 8 := r4 (mw8 hr.1) rfl rfl rfl
theorem keptm_u128 (r : R4) (hr : Ok4 r) : kept_u128 r = mrow r 16 := r4 (mw8 hr.1) (mw8 hr.2.1) rfl rfl
theorem keptm_u256 (r : R4) (hr : Ok4 r) : kept_u256 r = mrow r 32 := r4 (mw8 hr.1) (mw8 hr.2.1) (mw8 hr.2.2.1) (mw8 hr.2.2.2)
theorem keptm_f32 (r : R4) (hr : Ok4 r) : kept_f32 r = mrow r 4 := r4 (by show (((IntKind.u32.wrap r.a).toNat : Nat) : Int) = r.a % 4294967296 <;> rw [IntKind.wrap_u32] <;> omega) rfl rfl rfl
theorem keptm_f64 (r : R4) (hr : Ok4 r) : kept_f64 r = mrow r 8 := r4 (by show ((r.a.toNat : Nat) : Int) = r.a % 18446744073709551616 <;> have := hr.1 <;> omega) rfl rfl rfl
theorem keptm_ipv4 (r : R4) (hr : Ok4 r) : kept_ipv4 r = mrow r 4 := r4 (by show IntKind.u32.wrap r.a = r.a % 4294967296 <;> rw [IntKind.wrap_u32]) rfl rfl rfl
theorem keptm_ip (r : R4) (hr : Ok4 r) : kept_ip r = mrow r 16 := r4 (mw8 hr.1) (mw8 hr.2.1) rfl rfl
end Go.Proofs.YtfbohkbpgfnceaaGreatDoor
