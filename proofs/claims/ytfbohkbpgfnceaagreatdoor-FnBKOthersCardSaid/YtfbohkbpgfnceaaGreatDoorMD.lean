/- Rows of four words; how a row becomes what a column holds, and back. -/
import Derived.Test.YtfbohkbpgfnceaaGreatDoorK12
import Derived.Test.YtfbohkbpgfnceaaGreatDoorMC
namespace Go.Proofs.YtfbohkbpgfnceaaGreatDoor
set_option linter.unusedVariables false
set_option linter.unusedSimpArgs false
open Go Go.RowKit
/-- a row: four words -/
structure R4 where
  a : Int
  b : Int
  c : Int
  d : Int
def R4.cells (r : R4) : List Value := [.int .u64 r.a, .int .u64 r.b, .int .u64 r.c, .int .u64 r.d]
theorem R4.cells_len (r : R4) : r.cells.length = 4 := rfl
def R4.agg (r : R4) : Value := .agg #[.int .u64 r.a, .int .u64 r.b, .int .u64 r.c, .int .u64 r.d]
theorem rows_get (rs : List R4) (k : Nat) (h : k < rs.length) (j : Nat) (hj : j < 4) : (rs.flatMap R4.cells)[k * 4 + j]? = rs[k].cells[j]? := by
  induction rs generalizing k with
  | nil => simp at h
  | cons r rs ih =>
    simp only [List.flatMap_cons]
    cases k with
    | zero => rw [List.getElem?_append_left (by simp [R4.cells_len]; omega)]; simp
    | succ k =>
      rw [List.getElem?_append_right (by simp [R4.cells_len]; omega)]
      simp only [R4.cells_len, List.getElem_cons_succ]
      rw [← ih k (by simpa using h)]
      congr 1
      omega

theorem Tryz.info67 : (Tryz.prog.info? 67).map (fun i => (i.zero, i.size, i.bytes)) = some (some (.agg #[.int .u64 0, .int .u64 0, .int .u64 0, .int .u64 0]), 4, 32) := by kernel_rfl
theorem size_arr16 : (Tryz.prog.info? 295).map (·.size) = some 16 := by kernel_rfl
/-- a row of one word -/
def one4 (x : Int) : R4 := ⟨x, 0, 0, 0⟩
set_option maxRecDepth 100000 in
set_option maxHeartbeats 400000 in
theorem in_i8 (r : R4) (w : World) : Calls Tryz.prog 36 #[r.agg] w fun e w' => e = .returned (.int .i8 (IntKind.i8.wrap r.a)) ∧ Upd [] w w' := by
  obtain ⟨a, b, c, d⟩ := r
  
  go_enter Tryz.func36, Tryz.ntmps36
  simp only [R4.agg]
  go_wp2
  go_ret
  exact ⟨by first | rfl | (simp; done) | (simp [wrap32, IntKind.wrap_i32]; done) | (simp [wrap64, IntKind.wrap_i64]; done), (Upd.refl _ _).alloc _⟩
set_option maxRecDepth 100000 in
set_option maxHeartbeats 400000 in
theorem in_i16 (r : R4) (w : World) : Calls Tryz.prog 38 #[r.agg] w fun e w' => e = .returned (.int .i16 (IntKind.i16.wrap r.a)) ∧ Upd [] w w' := by
  obtain ⟨a, b, c, d⟩ := r
  
  go_enter Tryz.func38, Tryz.ntmps38
  simp only [R4.agg]
  go_wp2
  go_ret
  exact ⟨by first | rfl | (simp; done) | (simp [wrap32, IntKind.wrap_i32]; done) | (simp [wrap64, IntKind.wrap_i64]; done), (Upd.refl _ _).alloc _⟩
set_option maxRecDepth 100000 in
set_option maxHeartbeats 400000 in
theorem in_i32 (r : R4) (w : World) : Calls Tryz.prog 40 #[r.agg] w fun e w' => e = .returned (.int .i32 (IntKind.i32.wrap r.a)) ∧ Upd [] w w' := by
  obtain ⟨a, b, c, d⟩ := r
  
  go_enter Tryz.func40, Tryz.ntmps40
  simp only [R4.agg]
  go_wp2
  go_ret
  exact ⟨by first | rfl | (simp; done) | (simp [wrap32, IntKind.wrap_i32]; done) | (simp [wrap64, IntKind.wrap_i64]; done), (Upd.refl _ _).alloc _⟩
set_option maxRecDepth 100000 in
set_option maxHeartbeats 400000 in
theorem in_i64 (r : R4) (w : World) : Calls Tryz.prog 42 #[r.agg] w fun e w' => e = .returned (.int .i64 (IntKind.i64.wrap r.a)) ∧ Upd [] w w' := by
  obtain ⟨a, b, c, d⟩ := r
  
  go_enter Tryz.func42, Tryz.ntmps42
  simp only [R4.agg]
  go_wp2
  go_ret
  exact ⟨by first | rfl | (simp; done) | (simp [wrap32, IntKind.wrap_i32]; done) | (simp [wrap64, IntKind.wrap_i64]; done), (Upd.refl _ _).alloc _⟩
set_option maxRecDepth 100000 in
set_option maxHeartbeats 400000 in
theorem in_u8 (r : R4) (w : World) : Calls Tryz.prog 51 #[r.agg] w fun e w' => e = .returned (.int .u8 (IntKind.u8.wrap r.a)) ∧ Upd [] w w' := by
  obtain ⟨a, b, c, d⟩ := r
  
  go_enter Tryz.func51, Tryz.ntmps51
  simp only [R4.agg]
  go_wp2
  go_ret
  exact ⟨by first | rfl | (simp; done) | (simp [wrap32, IntKind.wrap_i32]; done) | (simp [wrap64, IntKind.wrap_i64]; done), (Upd.refl _ _).alloc _⟩
set_option maxRecDepth 100000 in
set_option maxHeartbeats 400000 in
theorem in_u16 (r : R4) (w : World) : Calls Tryz.prog 53 #[r.agg] w fun e w' => e = .returned (.int .u16 (IntKind.u16.wrap r.a)) ∧ Upd [] w w' := by
  obtain ⟨a, b, c, d⟩ := r
  
  go_enter Tryz.func53, Tryz.ntmps53
  simp only [R4.agg]
  go_wp2
  go_ret
  exact ⟨by first | rfl | (simp; done) | (simp [wrap32, IntKind.wrap_i32]; done) | (simp [wrap64, IntKind.wrap_i64]; done), (Upd.refl _ _).alloc _⟩
set_option maxRecDepth 100000 in
set_option maxHeartbeats 400000 in
theorem in_u32 (r : R4) (w : World) : Calls Tryz.prog 55 #[r.agg] w fun e w' => e = .returned (.int .u32 (IntKind.u32.wrap r.a)) ∧ Upd [] w w' := by
  obtain ⟨a, b, c, d⟩ := r
  
  go_enter Tryz.func55, Tryz.ntmps55
  simp only [R4.agg]
  go_wp2
  go_ret
  exact ⟨by first | rfl | (simp; done) | (simp [wrap32, IntKind.wrap_i32]; done) | (simp [wrap64, IntKind.wrap_i64]; done), (Upd.refl _ _).alloc _⟩
set_option maxRecDepth 100000 in
set_option maxHeartbeats 400000 in
theorem in_u64 (r : R4) (w : World) : Calls Tryz.prog 57 #[r.agg] w fun e w' => e = .returned (.int .u64 r.a) ∧ Upd [] w w' := by
  obtain ⟨a, b, c, d⟩ := r
  
  go_enter Tryz.func57, Tryz.ntmps57
  simp only [R4.agg]
  go_wp2
  go_ret
  exact ⟨by first | rfl | (simp; done) | (simp [wrap32, IntKind.wrap_i32]; done) | (simp [wrap64, IntKind.wrap_i64]; done), (Upd.refl _ _).alloc _⟩
set_option maxRecDepth 100000 in
set_option maxHeartbeats 400000 in
theorem in_f32 (r : R4) (w : World) : Calls Tryz.prog 79 #[r.agg] w fun e w' => e = .returned (.float .f32 (IntKind.u32.wrap r.a).toNat) ∧ Upd [] w w' := by
  obtain ⟨a, b, c, d⟩ := r
  have hf := f32of
  go_enter Tryz.func79, Tryz.ntmps79
  simp only [R4.agg]
  go_wp2
  go_ret
  exact ⟨by first | rfl | (simp; done) | (simp [wrap32, IntKind.wrap_i32]; done) | (simp [wrap64, IntKind.wrap_i64]; done), (Upd.refl _ _).alloc _⟩
set_option maxRecDepth 100000 in
set_option maxHeartbeats 400000 in
theorem in_f64 (r : R4) (w : World) : Calls Tryz.prog 81 #[r.agg] w fun e w' => e = .returned (.float .f64 r.a.toNat) ∧ Upd [] w w' := by
  obtain ⟨a, b, c, d⟩ := r
  have hf := f64of
  go_enter Tryz.func81, Tryz.ntmps81
  simp only [R4.agg]
  go_wp2
  go_ret
  exact ⟨by first | rfl | (simp; done) | (simp [wrap32, IntKind.wrap_i32]; done) | (simp [wrap64, IntKind.wrap_i64]; done), (Upd.refl _ _).alloc _⟩
set_option maxRecDepth 100000 in
set_option maxHeartbeats 400000 in
theorem in_bool (r : R4) (w : World) : Calls Tryz.prog 85 #[r.agg] w fun e w' => e = .returned (.bool (!(r.a == 0))) ∧ Upd [] w w' := by
  obtain ⟨a, b, c, d⟩ := r
  
  go_enter Tryz.func85, Tryz.ntmps85
  simp only [R4.agg]
  go_wp2
  go_ret
  exact ⟨by first | rfl | (simp; done) | (simp [wrap32, IntKind.wrap_i32]; done) | (simp [wrap64, IntKind.wrap_i64]; done), (Upd.refl _ _).alloc _⟩
set_option maxRecDepth 100000 in
set_option maxHeartbeats 400000 in
theorem in_ipv4 (r : R4) (w : World) : Calls Tryz.prog 87 #[r.agg] w fun e w' => e = .returned (.int .u32 (IntKind.u32.wrap r.a)) ∧ Upd [] w w' := by
  obtain ⟨a, b, c, d⟩ := r
  
  go_enter Tryz.func87, Tryz.ntmps87
  simp only [R4.agg]
  go_wp2
  go_ret
  exact ⟨by first | rfl | (simp; done) | (simp [wrap32, IntKind.wrap_i32]; done) | (simp [wrap64, IntKind.wrap_i64]; done), (Upd.refl _ _).alloc _⟩
set_option maxRecDepth 100000 in
set_option maxHeartbeats 400000 in
theorem out_i8 (x : Int) (hx : -128 ≤ x ∧ x < 128) (w : World) : Calls Tryz.prog 37 #[.int .i8 x] w fun e w' => e = .returned (one4 (x % 256)).agg ∧ Upd [] w w' := by
  obtain ⟨z, hz⟩ : ∃ z, z = x % 256 := ⟨_, rfl⟩
  have h1 : IntKind.u64.wrap (x % 256) = z := by rw [hz, IntKind.wrap_u64] <;> omega
  have h2 : (x % 256) % 18446744073709551616 = z := by rw [hz] <;> omega
  skip
  rw [← hz]
  have HZ := Lib.hid hz
  clear hz
  
  go_enter Tryz.func37, Tryz.ntmps37
  go_wp2
  refine bodyPost_ret (v := (one4 z).agg) (results_cell1 Tryz.results37 (b := w.heap.size) rfl ?_) rfl ⟨rfl, (Upd.refl _ _).alloc _⟩
  exact run_loadVar_mid _ w.heap.size 0 67 [.int .u64 z, .int .u64 0, .int .u64 0, .int .u64 0] _ (rangeAt_blk (heap_alloc_new _ _)) Tryz.underlying67 rfl (by kernel_rfl)
set_option maxRecDepth 100000 in
set_option maxHeartbeats 400000 in
theorem out_i16 (x : Int) (hx : -32768 ≤ x ∧ x < 32768) (w : World) : Calls Tryz.prog 39 #[.int .i16 x] w fun e w' => e = .returned (one4 (x % 65536)).agg ∧ Upd [] w w' := by
  obtain ⟨z, hz⟩ : ∃ z, z = x % 65536 := ⟨_, rfl⟩
  have h1 : IntKind.u64.wrap (x % 65536) = z := by rw [hz, IntKind.wrap_u64] <;> omega
  have h2 : (x % 65536) % 18446744073709551616 = z := by rw [hz] <;> omega
  skip
  rw [← hz]
  have HZ := Lib.hid hz
  clear hz
  have h4 : IntKind.u16.wrap x = x % 65536 := IntKind.wrap_u16 x
  go_enter Tryz.func39, Tryz.ntmps39
  go_wp2
  refine bodyPost_ret (v := (one4 z).agg) (results_cell1 Tryz.results39 (b := w.heap.size) rfl ?_) rfl ⟨rfl, (Upd.refl _ _).alloc _⟩
  exact run_loadVar_mid _ w.heap.size 0 67 [.int .u64 z, .int .u64 0, .int .u64 0, .int .u64 0] _ (rangeAt_blk (heap_alloc_new _ _)) Tryz.underlying67 rfl (by kernel_rfl)
set_option maxRecDepth 100000 in
set_option maxHeartbeats 400000 in
theorem out_i32 (x : Int) (hx : -2147483648 ≤ x ∧ x < 2147483648) (w : World) : Calls Tryz.prog 41 #[.int .i32 x] w fun e w' => e = .returned (one4 (x % 4294967296)).agg ∧ Upd [] w w' := by
  obtain ⟨z, hz⟩ : ∃ z, z = x % 4294967296 := ⟨_, rfl⟩
  have h1 : IntKind.u64.wrap (x % 4294967296) = z := by rw [hz, IntKind.wrap_u64] <;> omega
  have h2 : (x % 4294967296) % 18446744073709551616 = z := by rw [hz] <;> omega
  skip
  rw [← hz]
  have HZ := Lib.hid hz
  clear hz
  
  go_enter Tryz.func41, Tryz.ntmps41
  go_wp2
  refine bodyPost_ret (v := (one4 z).agg) (results_cell1 Tryz.results41 (b := w.heap.size) rfl ?_) rfl ⟨rfl, (Upd.refl _ _).alloc _⟩
  exact run_loadVar_mid _ w.heap.size 0 67 [.int .u64 z, .int .u64 0, .int .u64 0, .int .u64 0] _ (rangeAt_blk (heap_alloc_new _ _)) Tryz.underlying67 rfl (by kernel_rfl)
set_option maxRecDepth 100000 in
set_option maxHeartbeats 400000 in
theorem out_i64 (x : Int) (hx : -9223372036854775808 ≤ x ∧ x < 9223372036854775808) (w : World) : Calls Tryz.prog 43 #[.int .i64 x] w fun e w' => e = .returned (one4 (x % 18446744073709551616)).agg ∧ Upd [] w w' := by
  obtain ⟨z, hz⟩ : ∃ z, z = x % 18446744073709551616 := ⟨_, rfl⟩
  have h1 : IntKind.u64.wrap (x % 18446744073709551616) = z := by rw [hz, IntKind.wrap_u64] <;> omega
  have h2 : (x % 18446744073709551616) % 18446744073709551616 = z := by rw [hz] <;> omega
  have h3 : IntKind.u64.wrap x = z := by rw [hz, IntKind.wrap_u64] <;> omega
  rw [← hz]
  have HZ := Lib.hid hz
  clear hz
  
  go_enter Tryz.func43, Tryz.ntmps43
  go_wp2
  refine bodyPost_ret (v := (one4 z).agg) (results_cell1 Tryz.results43 (b := w.heap.size) rfl ?_) rfl ⟨rfl, (Upd.refl _ _).alloc _⟩
  exact run_loadVar_mid _ w.heap.size 0 67 [.int .u64 z, .int .u64 0, .int .u64 0, .int .u64 0] _ (rangeAt_blk (heap_alloc_new _ _)) Tryz.underlying67 rfl (by kernel_rfl)
set_option maxRecDepth 100000 in
set_option maxHeartbeats 400000 in
theorem out_u8 (x : Int) (hx : 0 ≤ x ∧ x < 256) (w : World) : Calls Tryz.prog 52 #[.int .u8 x] w fun e w' => e = .returned (one4 (x)).agg ∧ Upd [] w w' := by
  obtain ⟨z, hz⟩ : ∃ z, z = x := ⟨_, rfl⟩
  have h1 : IntKind.u64.wrap (x) = z := by rw [hz, IntKind.wrap_u64] <;> omega
  have h2 : (x) % 18446744073709551616 = z := by rw [hz] <;> omega
  have h3 : IntKind.u64.wrap x = z := by rw [hz, IntKind.wrap_u64] <;> omega
  rw [← hz]
  have HZ := Lib.hid hz
  clear hz
  
  go_enter Tryz.func52, Tryz.ntmps52
  go_wp2
  refine bodyPost_ret (v := (one4 z).agg) (results_cell1 Tryz.results52 (b := w.heap.size) rfl ?_) rfl ⟨rfl, (Upd.refl _ _).alloc _⟩
  exact run_loadVar_mid _ w.heap.size 0 67 [.int .u64 z, .int .u64 0, .int .u64 0, .int .u64 0] _ (rangeAt_blk (heap_alloc_new _ _)) Tryz.underlying67 rfl (by kernel_rfl)
set_option maxRecDepth 100000 in
set_option maxHeartbeats 400000 in
theorem out_u16 (x : Int) (hx : 0 ≤ x ∧ x < 65536) (w : World) : Calls Tryz.prog 54 #[.int .u16 x] w fun e w' => e = .returned (one4 (x)).agg ∧ Upd [] w w' := by
  obtain ⟨z, hz⟩ : ∃ z, z = x := ⟨_, rfl⟩
  have h1 : IntKind.u64.wrap (x) = z := by rw [hz, IntKind.wrap_u64] <;> omega
  have h2 : (x) % 18446744073709551616 = z := by rw [hz] <;> omega
  have h3 : IntKind.u64.wrap x = z := by rw [hz, IntKind.wrap_u64] <;> omega
  rw [← hz]
  have HZ := Lib.hid hz
  clear hz
  
  go_enter Tryz.func54, Tryz.ntmps54
  go_wp2
  refine bodyPost_ret (v := (one4 z).agg) (results_cell1 Tryz.results54 (b := w.heap.size) rfl ?_) rfl ⟨rfl, (Upd.refl _ _).alloc _⟩
  exact run_loadVar_mid _ w.heap.size 0 67 [.int .u64 z, .int .u64 0, .int .u64 0, .int .u64 0] _ (rangeAt_blk (heap_alloc_new _ _)) Tryz.underlying67 rfl (by kernel_rfl)
set_option maxRecDepth 100000 in
set_option maxHeartbeats 400000 in
theorem out_u32 (x : Int) (hx : 0 ≤ x ∧ x < 4294967296) (w : World) : Calls Tryz.prog 56 #[.int .u32 x] w fun e w' => e = .returned (one4 (x)).agg ∧ Upd [] w w' := by
  obtain ⟨z, hz⟩ : ∃ z, z = x := ⟨_, rfl⟩
  have h1 : IntKind.u64.wrap (x) = z := by rw [hz, IntKind.wrap_u64] <;> omega
  have h2 : (x) % 18446744073709551616 = z := by rw [hz] <;> omega
  have h3 : IntKind.u64.wrap x = z := by rw [hz, IntKind.wrap_u64] <;> omega
  rw [← hz]
  have HZ := Lib.hid hz
  clear hz
  
  go_enter Tryz.func56, Tryz.ntmps56
  go_wp2
  refine bodyPost_ret (v := (one4 z).agg) (results_cell1 Tryz.results56 (b := w.heap.size) rfl ?_) rfl ⟨rfl, (Upd.refl _ _).alloc _⟩
  exact run_loadVar_mid _ w.heap.size 0 67 [.int .u64 z, .int .u64 0, .int .u64 0, .int .u64 0] _ (rangeAt_blk (heap_alloc_new _ _)) Tryz.underlying67 rfl (by kernel_rfl)
set_option maxRecDepth 100000 in
set_option maxHeartbeats 400000 in
theorem out_u64 (x : Int) (hx : 0 ≤ x ∧ x < 18446744073709551616) (w : World) : Calls Tryz.prog 58 #[.int .u64 x] w fun e w' => e = .returned (one4 (x)).agg ∧ Upd [] w w' := by
  obtain ⟨z, hz⟩ : ∃ z, z = x := ⟨_, rfl⟩
  have h1 : IntKind.u64.wrap (x) = z := by rw [hz, IntKind.wrap_u64] <;> omega
  have h2 : (x) % 18446744073709551616 = z := by rw [hz] <;> omega
  have h3 : IntKind.u64.wrap x = z := by rw [hz, IntKind.wrap_u64] <;> omega
  rw [← hz]
  have HZ := Lib.hid hz
  clear hz
  
  go_enter Tryz.func58, Tryz.ntmps58
  go_wp2
  refine bodyPost_ret (v := (one4 z).agg) (results_cell1 Tryz.results58 (b := w.heap.size) rfl ?_) rfl ⟨rfl, (Upd.refl _ _).alloc _⟩
  exact run_loadVar_mid _ w.heap.size 0 67 [.int .u64 z, .int .u64 0, .int .u64 0, .int .u64 0] _ (rangeAt_blk (heap_alloc_new _ _)) Tryz.underlying67 rfl (by kernel_rfl)
set_option maxRecDepth 100000 in
set_option maxHeartbeats 400000 in
theorem out_f32 (x : Nat) (hx : x < 4294967296) (w : World) : Calls Tryz.prog 80 #[.float .f32 x] w fun e w' => e = .returned (one4 ((x : Int))).agg ∧ Upd [] w w' := by
  obtain ⟨z, hz⟩ : ∃ z, z = (x : Int) := ⟨_, rfl⟩
  have h1 : IntKind.u64.wrap ((x : Int)) = z := by rw [hz, IntKind.wrap_u64] <;> omega
  have h2 : ((x : Int)) % 18446744073709551616 = z := by rw [hz] <;> omega
  have h3 : (x : Int) = z := hz.symm
  rw [← hz]
  have HZ := Lib.hid hz
  clear hz
  have hf := u32of
  go_enter Tryz.func80, Tryz.ntmps80
  go_wp2
  refine bodyPost_ret (v := (one4 z).agg) (results_cell1 Tryz.results80 (b := w.heap.size) rfl ?_) rfl ⟨rfl, (Upd.refl _ _).alloc _⟩
  exact run_loadVar_mid _ w.heap.size 0 67 [.int .u64 z, .int .u64 0, .int .u64 0, .int .u64 0] _ (rangeAt_blk (heap_alloc_new _ _)) Tryz.underlying67 rfl (by kernel_rfl)
set_option maxRecDepth 100000 in
set_option maxHeartbeats 400000 in
theorem out_f64 (x : Nat) (hx : x < 18446744073709551616) (w : World) : Calls Tryz.prog 83 #[.float .f64 x] w fun e w' => e = .returned (one4 ((x : Int))).agg ∧ Upd [] w w' := by
  obtain ⟨z, hz⟩ : ∃ z, z = (x : Int) := ⟨_, rfl⟩
  have h1 : IntKind.u64.wrap ((x : Int)) = z := by rw [hz, IntKind.wrap_u64] <;> omega
  have h2 : ((x : Int)) % 18446744073709551616 = z := by rw [hz] <;> omega
  have h3 : (x : Int) = z := hz.symm
  rw [← hz]
  have HZ := Lib.hid hz
  clear hz
  have hf := u64of
  go_enter Tryz.func83, Tryz.ntmps83
  go_wp2
  refine bodyPost_ret (v := (one4 z).agg) (results_cell1 Tryz.results83 (b := w.heap.size) rfl ?_) rfl ⟨rfl, (Upd.refl _ _).alloc _⟩
  exact run_loadVar_mid _ w.heap.size 0 67 [.int .u64 z, .int .u64 0, .int .u64 0, .int .u64 0] _ (rangeAt_blk (heap_alloc_new _ _)) Tryz.underlying67 rfl (by kernel_rfl)
set_option maxRecDepth 100000 in
set_option maxHeartbeats 400000 in
theorem out_ipv4 (x : Int) (hx : 0 ≤ x ∧ x < 4294967296) (w : World) : Calls Tryz.prog 88 #[.int .u32 x] w fun e w' => e = .returned (one4 (x)).agg ∧ Upd [] w w' := by
  obtain ⟨z, hz⟩ : ∃ z, z = x := ⟨_, rfl⟩
  have h1 : IntKind.u64.wrap (x) = z := by rw [hz, IntKind.wrap_u64] <;> omega
  have h2 : (x) % 18446744073709551616 = z := by rw [hz] <;> omega
  have h3 : IntKind.u64.wrap x = z := by rw [hz, IntKind.wrap_u64] <;> omega
  rw [← hz]
  have HZ := Lib.hid hz
  clear hz
  
  go_enter Tryz.func88, Tryz.ntmps88
  go_wp2
  refine bodyPost_ret (v := (one4 z).agg) (results_cell1 Tryz.results88 (b := w.heap.size) rfl ?_) rfl ⟨rfl, (Upd.refl _ _).alloc _⟩
  exact run_loadVar_mid _ w.heap.size 0 67 [.int .u64 z, .int .u64 0, .int .u64 0, .int .u64 0] _ (rangeAt_blk (heap_alloc_new _ _)) Tryz.underlying67 rfl (by kernel_rfl)
theorem replicate_step (k : Nat) (h : k < 16) : List.replicate (16 - k) (Value.int .u8 0) = .int .u8 0 :: List.replicate (16 - (k + 1)) (Value.int .u8 0) := by
  have : 16 - k = (16 - (k + 1)) + 1 := by omega
  rw [this, List.replicate_succ]
theorem set_zeros {xs : List Value} {k : Nat} (hx : xs.length = k) (h : k < 16) (u : Value) : (xs ++ List.replicate (16 - k) (Value.int .u8 0)).set k u = xs ++ [u] ++ List.replicate (16 - (k + 1)) (Value.int .u8 0) := by
  rw [replicate_step k h, List.set_append_right _ _ (by omega), hx, Nat.sub_self]
  simp

set_option maxRecDepth 100000 in
set_option maxHeartbeats 400000 in
theorem bytes16 (r : R4) (w : World) : Calls Tryz.prog 90 #[r.agg] w fun e w' => e = .returned (.agg (lowV r.a r.b 16).toArray) ∧ Upd [] w w' := by
  obtain ⟨a, b, c, d⟩ := r
  go_enter Tryz.func90, Tryz.ntmps90
  simp only [R4.agg]
  go_wp2
  obtain ⟨k1, u1, s1⟩ := alloc_facts w (Obj.cells #[.int .u64 a, .int .u64 b, .int .u64 c, .int .u64 d] 67)
  obtain ⟨k2, u2, s2⟩ := alloc_facts (w.alloc (Obj.cells #[.int .u64 a, .int .u64 b, .int .u64 c, .int .u64 d] 67)) (Obj.cells #[.int .u8 0, .int .u8 0, .int .u8 0, .int .u8 0, .int .u8 0, .int .u8 0, .int .u8 0, .int .u8 0, .int .u8 0, .int .u8 0, .int .u8 0, .int .u8 0, .int .u8 0, .int .u8 0, .int .u8 0, .int .u8 0] 295)
  obtain ⟨k3, u3, s3⟩ := alloc_facts ((w.alloc (Obj.cells #[.int .u64 a, .int .u64 b, .int .u64 c, .int .u64 d] 67)).alloc (Obj.cells #[.int .u8 0, .int .u8 0, .int .u8 0, .int .u8 0, .int .u8 0, .int .u8 0, .int .u8 0, .int .u8 0, .int .u8 0, .int .u8 0, .int .u8 0, .int .u8 0, .int .u8 0, .int .u8 0, .int .u8 0, .int .u8 0] 295)) (Obj.cells #[.int .u8 0, .int .u8 0, .int .u8 0, .int .u8 0, .int .u8 0, .int .u8 0, .int .u8 0, .int .u8 0, .int .u8 0, .int .u8 0, .int .u8 0, .int .u8 0, .int .u8 0, .int .u8 0, .int .u8 0, .int .u8 0] 295)
  generalize ((w.alloc (Obj.cells #[.int .u64 a, .int .u64 b, .int .u64 c, .int .u64 d] 67)).alloc (Obj.cells #[.int .u8 0, .int .u8 0, .int .u8 0, .int .u8 0, .int .u8 0, .int .u8 0, .int .u8 0, .int .u8 0, .int .u8 0, .int .u8 0, .int .u8 0, .int .u8 0, .int .u8 0, .int .u8 0, .int .u8 0, .int .u8 0] 295)).alloc (Obj.cells #[.int .u8 0, .int .u8 0, .int .u8 0, .int .u8 0, .int .u8 0, .int .u8 0, .int .u8 0, .int .u8 0, .int .u8 0, .int .u8 0, .int .u8 0, .int .u8 0, .int .u8 0, .int .u8 0, .int .u8 0, .int .u8 0] 295) = W3 at *
  generalize (w.alloc (Obj.cells #[.int .u64 a, .int .u64 b, .int .u64 c, .int .u64 d] 67)).alloc (Obj.cells #[.int .u8 0, .int .u8 0, .int .u8 0, .int .u8 0, .int .u8 0, .int .u8 0, .int .u8 0, .int .u8 0, .int .u8 0, .int .u8 0, .int .u8 0, .int .u8 0, .int .u8 0, .int .u8 0, .int .u8 0, .int .u8 0] 295) = W2 at *
  generalize w.alloc (Obj.cells #[.int .u64 a, .int .u64 b, .int .u64 c, .int .u64 d] 67) = W1 at *
  rw [s1] at k2 s2
  rw [s2] at k3 s3
  have b0 := u3.at (u2.at k1 (by simp)) (by simp)
  have b1 := u3.at k2 (by simp)
  have hU0 := (u1.trans u2 (fun _ h => .inl h)).trans u3 (fun _ h => .inl h)
  clear u1 u2 u3 k1 k2 s1 s2
  go_loopw [5] (fun i wr => ∃ k : Nat, k ≤ 16 ∧ i = .int .i64 k ∧ wr.heap[w.heap.size]? = some (.cells #[.int .u64 a, .int .u64 b, .int .u64 c, .int .u64 d] 67 (0, 0)) ∧ wr.heap[w.heap.size + 1]? = some (.cells #[.int .u8 0, .int .u8 0, .int .u8 0, .int .u8 0, .int .u8 0, .int .u8 0, .int .u8 0, .int .u8 0, .int .u8 0, .int .u8 0, .int .u8 0, .int .u8 0, .int .u8 0, .int .u8 0, .int .u8 0, .int .u8 0] 295 (0, 0)) ∧
      wr.heap[w.heap.size + 1 + 1]? = some (.cells (lowV a b k ++ List.replicate (16 - k) (Value.int .u8 0)).toArray 295 (0, 0)) ∧ Upd [] w wr)
    (fun i _ => 16 - (intOf i).toNat)
  case atStart => exact ⟨0, Nat.zero_le _, rfl, b0, b1, by simpa [lowV, List.replicate_succ] using k3, hU0⟩
  case round =>
    obtain ⟨k, hk, rfl, h0, h1, h2, hU⟩ := hrel
    by_cases hlt : k < 16
    · have hk0 : ((k : Int) < 16) := by omega
      have hk00 : (0 : Int) ≤ (k : Int) / 8 ∧ (k : Int) / 8 < 4 := by omega
      have l2 : k < (lowV a b k ++ List.replicate (16 - k) (Value.int .u8 0)).length := by rw [List.length_append, lowV_len, List.length_replicate]; omega
      have c2 : wr.cell? ⟨w.heap.size + 1 + 1, k, none⟩ = some (.int .u8 0) := by
        simp only [World.cell?, h2, Option.isSome_none, Bool.false_eq_true, if_false]
        rw [List.getElem?_toArray, List.getElem?_append_right (by rw [lowV_len]; omega), lowV_len, Nat.sub_self, replicate_step k hlt]
        rfl
      have f2 : wr.frozen? ⟨w.heap.size + 1 + 1, k, none⟩ = false := by simp [World.frozen?, h2]
      have cs : ∀ u : Value, (wr.setCell ⟨w.heap.size + 1 + 1, k, none⟩ u).heap[w.heap.size + 1 + 1]? = some (.cells (lowV a b k ++ [u] ++ List.replicate (16 - (k + 1)) (Value.int .u8 0)).toArray 295 (0, 0)) := fun u => by
        rw [heap_setCell_same wr _ k _ _ u h2]
        congr 2
        rw [List.setIfInBounds_toArray, set_zeros (lowV_len _ _ _) hlt]
      have hl2 := lt_of_block h2
      by_cases h8 : k < 8
      · have hz : (k : Int) / 8 = 0 := by omega
        have c0 : wr.cell? ⟨w.heap.size, 0, none⟩ = some (.int .u64 a) := by simp [World.cell?, h0]
        have cf := cs (.int .u8 (a / 2 ^ (8 * (k % 8)) % 256))
        have HC := Lib.hid cf
        clear cs cf
        go_wp2
        go_roundw
        case rel =>
          refine ⟨k + 1, by omega, by go_num, ?_, ?_, ?_, ?_⟩
          · rw [heap_setCell_other wr _ _ _ (by show ¬ w.heap.size = w.heap.size + 1 + 1; omega)]; exact h0
          · rw [heap_setCell_other wr _ _ _ (by show ¬ w.heap.size + 1 = w.heap.size + 1 + 1; omega)]; exact h1
          · rw [lowV_succ, low16_lo (by omega)]; exact HC.out
          · exact hU.setCell _ (.inr (by show w.heap.size ≤ w.heap.size + 1 + 1; omega))
        case measure => simp [intOf]; omega
      · have hz : (k : Int) / 8 = 1 := by omega
        have c0 : wr.cell? ⟨w.heap.size, 1, none⟩ = some (.int .u64 b) := by simp [World.cell?, h0]
        have cf := cs (.int .u8 (b / 2 ^ (8 * (k % 8)) % 256))
        have HC := Lib.hid cf
        clear cs cf
        go_wp2
        go_roundw
        case rel =>
          refine ⟨k + 1, by omega, by go_num, ?_, ?_, ?_, ?_⟩
          · rw [heap_setCell_other wr _ _ _ (by show ¬ w.heap.size = w.heap.size + 1 + 1; omega)]; exact h0
          · rw [heap_setCell_other wr _ _ _ (by show ¬ w.heap.size + 1 = w.heap.size + 1 + 1; omega)]; exact h1
          · rw [lowV_succ, low16_hi (by omega)]; exact HC.out
          · exact hU.setCell _ (.inr (by show w.heap.size ≤ w.heap.size + 1 + 1; omega))
        case measure => simp [intOf]; omega
    · have hk0 : (16 : Int) ≤ k := by omega
      obtain rfl : k = 16 := by omega
      simp only [Nat.sub_self, List.replicate_zero, List.append_nil] at h2
      have hr2 := rangeAt_blk h2
      go_wp2_with (first
        | ((with_reducible show wpList _ _ _ _ _ _); refine wpList_load_mid rfl 295 (.tmp 3) rfl (w.heap.size + 1 + 1) 0 rfl (lowV a b 16) _ hr2 Tryz.underlying295 rfl (by rw [lowV_len]; exact size_arr16) ?_)
        | ((with_reducible show wpList _ _ _ _ _ _); refine wpList_store_blk rfl 295 (.tmp 2) (.tmp 20) rfl (b := w.heap.size + 1) rfl h1 rfl (by rw [lowV_len]; rfl) (by rw [lowV_len]; exact size_arr16) (lowV_bytes _ _ _).one ?_; intro w3 hb3 hu3; simp only [Act.put]))
      refine bodyPost_ret (v := .agg (lowV a b 16).toArray) (results_cell1 Tryz.results90 (b := w.heap.size + 1) rfl (run_loadVar_mid w3 (w.heap.size + 1) 0 295 (lowV a b 16) _ (rangeAt_blk hb3) Tryz.underlying295 rfl (by rw [lowV_len]; exact size_arr16))) rfl ⟨rfl, ?_⟩
      exact hU.trans hu3 (fun y hy => by simp at hy; exact .inr (by omega))

set_option maxRecDepth 100000 in
set_option maxHeartbeats 400000 in
theorem in_ip (r : R4) (w : World) : Calls Tryz.prog 89 #[r.agg] w fun e w' => e = .returned (.agg (lowV r.a r.b 16).toArray) ∧ Upd [] w w' := by
  go_enter Tryz.func89, Tryz.ntmps89
  simp only [R4.agg]
  go_wp2_with (at_builtin; apply stopHere)
  show Calls _ _ _ _ _
  obtain ⟨k1, u1, s1⟩ := alloc_facts w (Obj.cells #[.int .u64 r.a, .int .u64 r.b, .int .u64 r.c, .int .u64 r.d] 67)
  obtain ⟨k2, u2, s2⟩ := alloc_facts (w.alloc (Obj.cells #[.int .u64 r.a, .int .u64 r.b, .int .u64 r.c, .int .u64 r.d] 67)) (Obj.cells #[.int .u8 0, .int .u8 0, .int .u8 0, .int .u8 0, .int .u8 0, .int .u8 0, .int .u8 0, .int .u8 0, .int .u8 0, .int .u8 0, .int .u8 0, .int .u8 0, .int .u8 0, .int .u8 0, .int .u8 0, .int .u8 0] 296)
  rw [s1] at k2
  refine (bytes16 r _).mono ?_
  rintro _ w3 ⟨rfl, hu3⟩
  have k3 := hu3.at k2 (by simp)
  have hU := (u1.trans u2 (fun _ h => .inl h)).trans hu3 (fun _ h => .inl h)
  clear u1 u2 hu3 k1 k2 s1 s2
  dsimp only
  go_wp2_with ((with_reducible show wpList _ _ _ _ _ _); refine wpList_store_blk rfl 296 (.tmp 2) (.tmp 4) rfl (b := w.heap.size + 1) rfl k3 rfl (by rw [lowV_len]; rfl) (by rw [lowV_len]; exact size_ColIPv6) (lowV_bytes _ _ _).one ?_; intro w4 hb4 hu4; simp only [Act.put])
  refine bodyPost_ret (v := .agg (lowV r.a r.b 16).toArray) (results_cell1 Tryz.results89 (b := w.heap.size + 1) rfl (run_loadVar_mid w4 (w.heap.size + 1) 0 296 (lowV r.a r.b 16) _ (rangeAt_blk hb4) Tryz.underlying296 rfl (by rw [lowV_len]; exact size_ColIPv6))) rfl ⟨rfl, ?_⟩
  exact hU.trans hu4 (fun y hy => by simp at hy; exact .inr (by omega))
end Go.Proofs.YtfbohkbpgfnceaaGreatDoor
/- How a row becomes a number of two or four words, a bool, an address, and back. -/
namespace Go.Proofs.YtfbohkbpgfnceaaGreatDoor
set_option linter.unusedVariables false
set_option linter.unusedSimpArgs false
open Go Go.RowKit
theorem blk2 (w : World) (A B : Obj) : ((w.alloc A).alloc B).heap[w.heap.size + 1]? = some B := by
  have := heap_alloc_new (w.alloc A) B
  rwa [World.size_alloc] at this
set_option maxRecDepth 100000 in
set_option maxHeartbeats 400000 in
theorem low_of (r : R4) (w : World) : Calls Tryz.prog 45 #[r.agg] w fun e w' => e = .returned (.agg ([.int .u64 r.a, .int .u64 r.b] : List Value).toArray) ∧ Upd [] w w' := by
  obtain ⟨a, b, c, d⟩ := r
  go_enter Tryz.func45, Tryz.ntmps45
  simp only [R4.agg]
  go_wp2
  refine bodyPost_ret (results_cell1 Tryz.results45 (b := w.heap.size + 1) rfl (run_loadVar_mid _ (w.heap.size + 1) 0 143 _ _ (rangeAt_blk (blk2 w _ _)) Tryz.underlying143 rfl (by kernel_rfl))) rfl ⟨rfl, ((Upd.refl _ _).alloc _).alloc _⟩
set_option maxRecDepth 100000 in
set_option maxHeartbeats 400000 in
theorem high_of (r : R4) (w : World) : Calls Tryz.prog 49 #[r.agg] w fun e w' => e = .returned (.agg ([.int .u64 r.c, .int .u64 r.d] : List Value).toArray) ∧ Upd [] w w' := by
  obtain ⟨a, b, c, d⟩ := r
  go_enter Tryz.func49, Tryz.ntmps49
  simp only [R4.agg]
  go_wp2
  refine bodyPost_ret (results_cell1 Tryz.results49 (b := w.heap.size + 1) rfl (run_loadVar_mid _ (w.heap.size + 1) 0 143 _ _ (rangeAt_blk (blk2 w _ _)) Tryz.underlying143 rfl (by kernel_rfl))) rfl ⟨rfl, ((Upd.refl _ _).alloc _).alloc _⟩
set_option maxRecDepth 100000 in
set_option maxHeartbeats 400000 in
theorem wide_of (a b c d : Int) (w : World) : Calls Tryz.prog 47 #[.agg #[.int .u64 a, .int .u64 b], .agg #[.int .u64 c, .int .u64 d]] w fun e w' => e = .returned (R4.agg ⟨a, b, c, d⟩) ∧ Upd [] w w' := by
  go_enter Tryz.func47, Tryz.ntmps47
  go_wp2
  have hk : (((w.alloc (Obj.cells #[.int .u64 a, .int .u64 b] 143)).alloc (Obj.cells #[.int .u64 c, .int .u64 d] 143)).alloc (Obj.cells #[.int .u64 a, .int .u64 b, .int .u64 c, .int .u64 d] 67)).heap[w.heap.size + 1 + 1]? = some (Obj.cells [.int .u64 a, .int .u64 b, .int .u64 c, .int .u64 d].toArray 67) := by
    have := blk2 (w.alloc (Obj.cells #[.int .u64 a, .int .u64 b] 143)) (Obj.cells #[.int .u64 c, .int .u64 d] 143) (Obj.cells #[.int .u64 a, .int .u64 b, .int .u64 c, .int .u64 d] 67)
    rwa [World.size_alloc] at this
  refine bodyPost_ret (v := R4.agg ⟨a, b, c, d⟩) (results_cell1 Tryz.results47 (b := w.heap.size + 1 + 1) rfl (run_loadVar_mid _ (w.heap.size + 1 + 1) 0 67 [.int .u64 a, .int .u64 b, .int .u64 c, .int .u64 d] _ (rangeAt_blk hk) Tryz.underlying67 rfl (by kernel_rfl))) rfl ⟨rfl, (((Upd.refl _ _).alloc _).alloc _).alloc _⟩
set_option maxRecDepth 100000 in
set_option maxHeartbeats 1000000 in
theorem in_i128 (r : R4) (w : World) : Calls Tryz.prog 44 #[r.agg] w fun e w' => e = .returned (.agg ([.int .u64 r.a, .int .u64 r.b] : List Value).toArray) ∧ Upd [] w w' := by
  obtain ⟨k1, u1, s1⟩ := alloc_facts w (Obj.cells #[.int .u64 r.a, .int .u64 r.b, .int .u64 r.c, .int .u64 r.d] 67)
  obtain ⟨k2, u2, s2⟩ := alloc_facts (w.alloc (Obj.cells #[.int .u64 r.a, .int .u64 r.b, .int .u64 r.c, .int .u64 r.d] 67)) (Obj.cells #[.int .u64 0, .int .u64 0] 142)
  have r1 := rangeAt_blk (cs := [.int .u64 r.a, .int .u64 r.b, .int .u64 r.c, .int .u64 r.d]) (u2.at k1 (by simp))
  rw [s1] at k2
  have hl := low_of r
  simp only [R4.agg] at hl ⊢
  go_enter Tryz.func44, Tryz.ntmps44
  go_wp2_with (first
    | ((with_reducible show wpList _ _ _ _ _ _); refine wpList_load_mid rfl 67 (.tmp 1) rfl w.heap.size 0 rfl [.int .u64 r.a, .int .u64 r.b, .int .u64 r.c, .int .u64 r.d] _ r1 Tryz.underlying67 rfl (by kernel_rfl) ?_)
    | (go_at_call 45; (refine (hl _).mono ?_); rintro e w2 ⟨rfl, hu2⟩; have k3 := hu2.at k2 (by simp))
    | ((with_reducible show wpList _ _ _ _ _ _); refine wpList_store_blk rfl 142 (.tmp 2) (.tmp 4) rfl (b := w.heap.size + 1) rfl k3 (cs := [.int .u64 r.a, .int .u64 r.b]) rfl rfl (by kernel_rfl) (by simp [Value.oneCell']) ?_; intro w4 hb4 hu4; simp only [Act.put]))
  refine bodyPost_ret (results_cell1 Tryz.results44 (b := w.heap.size + 1) rfl (run_loadVar_mid _ (w.heap.size + 1) 0 142 [.int .u64 r.a, .int .u64 r.b] _ (rangeAt_blk hb4) Tryz.underlying142 rfl (by kernel_rfl))) rfl ⟨rfl, ?_⟩
  exact ((u1.trans u2 (fun _ h => .inl h)).trans hu2 (fun _ h => .inl h)).trans hu4 (fun y hy => by simp at hy; exact .inr (by omega))
set_option maxRecDepth 100000 in
set_option maxHeartbeats 1000000 in
theorem out_i128 (a b : Int) (w : World) : Calls Tryz.prog 46 #[.agg #[.int .u64 a, .int .u64 b]] w fun e w' => e = .returned (R4.agg ⟨a, b, 0, 0⟩) ∧ Upd [] w w' := by
  obtain ⟨k1, u1, s1⟩ := alloc_facts w (Obj.cells #[.int .u64 a, .int .u64 b] 142)
  obtain ⟨k2, u2, s2⟩ := alloc_facts (w.alloc (Obj.cells #[.int .u64 a, .int .u64 b] 142)) (Obj.cells #[.int .u64 0, .int .u64 0, .int .u64 0, .int .u64 0] 67)
  have r1 := rangeAt_blk (cs := [.int .u64 a, .int .u64 b]) (u2.at k1 (by simp))
  rw [s1] at k2
  have hl := wide_of a b 0 0
  simp only [R4.agg] at hl ⊢
  go_enter Tryz.func46, Tryz.ntmps46
  go_wp2_with (first
    | ((with_reducible show wpList _ _ _ _ _ _); refine wpList_load_mid rfl 142 (.tmp 1) rfl w.heap.size 0 rfl [.int .u64 a, .int .u64 b] _ r1 Tryz.underlying142 rfl (by kernel_rfl) ?_)
    | (go_at_call 47; (refine (hl _).mono ?_); rintro e w2 ⟨rfl, hu2⟩; have k3 := hu2.at k2 (by simp))
    | ((with_reducible show wpList _ _ _ _ _ _); refine wpList_store_blk rfl 67 (.tmp 2) (.tmp 5) rfl (b := w.heap.size + 1) rfl k3 (cs := [.int .u64 a, .int .u64 b, .int .u64 0, .int .u64 0]) rfl rfl (by kernel_rfl) (by simp [Value.oneCell']) ?_; intro w4 hb4 hu4; simp only [Act.put]))
  refine bodyPost_ret (results_cell1 Tryz.results46 (b := w.heap.size + 1) rfl (run_loadVar_mid _ (w.heap.size + 1) 0 67 [.int .u64 a, .int .u64 b, .int .u64 0, .int .u64 0] _ (rangeAt_blk hb4) Tryz.underlying67 rfl (by kernel_rfl))) rfl ⟨rfl, ?_⟩
  exact ((u1.trans u2 (fun _ h => .inl h)).trans hu2 (fun _ h => .inl h)).trans hu4 (fun y hy => by simp at hy; exact .inr (by omega))
set_option maxRecDepth 100000 in
set_option maxHeartbeats 1000000 in
theorem out_u128 (a b : Int) (w : World) : Calls Tryz.prog 76 #[.agg #[.int .u64 a, .int .u64 b]] w fun e w' => e = .returned (R4.agg ⟨a, b, 0, 0⟩) ∧ Upd [] w w' := by
  obtain ⟨k1, u1, s1⟩ := alloc_facts w (Obj.cells #[.int .u64 a, .int .u64 b] 143)
  obtain ⟨k2, u2, s2⟩ := alloc_facts (w.alloc (Obj.cells #[.int .u64 a, .int .u64 b] 143)) (Obj.cells #[.int .u64 0, .int .u64 0, .int .u64 0, .int .u64 0] 67)
  have r1 := rangeAt_blk (cs := [.int .u64 a, .int .u64 b]) (u2.at k1 (by simp))
  rw [s1] at k2
  have hl := wide_of a b 0 0
  simp only [R4.agg] at hl ⊢
  go_enter Tryz.func76, Tryz.ntmps76
  go_wp2_with (first
    | ((with_reducible show wpList _ _ _ _ _ _); refine wpList_load_mid rfl 143 (.tmp 1) rfl w.heap.size 0 rfl [.int .u64 a, .int .u64 b] _ r1 Tryz.underlying143 rfl (by kernel_rfl) ?_)
    | (go_at_call 47; (refine (hl _).mono ?_); rintro e w2 ⟨rfl, hu2⟩; have k3 := hu2.at k2 (by simp))
    | ((with_reducible show wpList _ _ _ _ _ _); refine wpList_store_blk rfl 67 (.tmp 2) (.tmp 5) rfl (b := w.heap.size + 1) rfl k3 (cs := [.int .u64 a, .int .u64 b, .int .u64 0, .int .u64 0]) rfl rfl (by kernel_rfl) (by simp [Value.oneCell']) ?_; intro w4 hb4 hu4; simp only [Act.put]))
  refine bodyPost_ret (results_cell1 Tryz.results76 (b := w.heap.size + 1) rfl (run_loadVar_mid _ (w.heap.size + 1) 0 67 [.int .u64 a, .int .u64 b, .int .u64 0, .int .u64 0] _ (rangeAt_blk hb4) Tryz.underlying67 rfl (by kernel_rfl))) rfl ⟨rfl, ?_⟩
  exact ((u1.trans u2 (fun _ h => .inl h)).trans hu2 (fun _ h => .inl h)).trans hu4 (fun y hy => by simp at hy; exact .inr (by omega))
set_option maxRecDepth 100000 in
set_option maxHeartbeats 400000 in
theorem out_bool (b : Bool) (w : World) : Calls Tryz.prog 86 #[.bool b] w fun e w' => e = .returned (one4 (if b then 1 else 0)).agg ∧ Upd [] w w' := by
  cases b <;> (go_enter Tryz.func86, Tryz.ntmps86) <;> go_wp2
  · refine bodyPost_ret (v := (one4 0).agg) (results_cell1 Tryz.results86 (b := w.heap.size) rfl ?_) rfl ⟨rfl, (Upd.refl _ _).alloc _⟩
    exact run_loadVar_mid _ w.heap.size 0 67 [.int .u64 0, .int .u64 0, .int .u64 0, .int .u64 0] _ (rangeAt_blk (heap_alloc_new _ _)) Tryz.underlying67 rfl (by kernel_rfl)
  · refine bodyPost_ret (v := (one4 1).agg) (results_cell1 Tryz.results86 (b := w.heap.size) rfl ?_) rfl ⟨rfl, (Upd.refl _ _).alloc _⟩
    exact run_loadVar_mid _ w.heap.size 0 67 [.int .u64 1, .int .u64 0, .int .u64 0, .int .u64 0] _ (rangeAt_blk (heap_alloc_new _ _)) Tryz.underlying67 rfl (by kernel_rfl)
end Go.Proofs.YtfbohkbpgfnceaaGreatDoor
