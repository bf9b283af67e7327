/- Row, Rows, Type, Reset of each column; an address read back. -/
import Derived.Test.YteimeeepcfcfcaaGreatDoorKC
import Derived.Test.YteimeeepcfcfcaaGreatDoorKW
namespace Go.Proofs.YteimeeepcfcfcaaGreatDoor
set_option maxRecDepth 100000
set_option maxHeartbeats 2000000
set_option linter.unusedVariables false
set_option linter.unusedSimpArgs false
open Go Go.RowKit
theorem rows_Int8 (ao : Option Addr) (n c : Nat) (w : World) : Calls Tryz.prog 212 #[.slice ao n c] w fun e w' => e = .returned (.int .i64 n) ∧ w' = w := by
  go_enter Tryz.func212, Tryz.ntmps212
  go_wp2
  go_ret
  exact ⟨rfl, rfl⟩
theorem type_Int8 (v : Value) (w : World) : Calls Tryz.prog 213 #[v] w fun e w' => e = .returned (.string "Int8".toUTF8) ∧ w' = w := by
  go_enter Tryz.func213, Tryz.ntmps213
  go_wp2
  go_ret
  exact ⟨rfl, rfl⟩
theorem reset_Int8 (p : Nat) (e : TypeId) (sz : Nat) (w : World) (h : Hold w p 110 e sz none 0 0 []) : Calls Tryz.prog 211 #[.pointer (some ⟨p, 0, none⟩)] w fun ex w' => ex = .returned (.tuple #[]) ∧ Hold w' p 110 e sz none 0 0 [] ∧ Upd [p] w w' := by
  have hc := h.cell
  have hf := h.free
  go_enter Tryz.func211, Tryz.ntmps211
  go_wp2
  go_end0
  exact ⟨rfl, Hold.stored h.blk Row.nil (by simp), (Upd.refl _ _).setCell _ (by simp)⟩
theorem rows_Int16 (ao : Option Addr) (n c : Nat) (w : World) : Calls Tryz.prog 224 #[.slice ao n c] w fun e w' => e = .returned (.int .i64 n) ∧ w' = w := by
  go_enter Tryz.func224, Tryz.ntmps224
  go_wp2
  go_ret
  exact ⟨rfl, rfl⟩
theorem type_Int16 (v : Value) (w : World) : Calls Tryz.prog 225 #[v] w fun e w' => e = .returned (.string "Int16".toUTF8) ∧ w' = w := by
  go_enter Tryz.func225, Tryz.ntmps225
  go_wp2
  go_ret
  exact ⟨rfl, rfl⟩
theorem reset_Int16 (p : Nat) (e : TypeId) (sz : Nat) (w : World) (h : Hold w p 120 e sz none 0 0 []) : Calls Tryz.prog 222 #[.pointer (some ⟨p, 0, none⟩)] w fun ex w' => ex = .returned (.tuple #[]) ∧ Hold w' p 120 e sz none 0 0 [] ∧ Upd [p] w w' := by
  have hc := h.cell
  have hf := h.free
  go_enter Tryz.func222, Tryz.ntmps222
  go_wp2
  go_end0
  exact ⟨rfl, Hold.stored h.blk Row.nil (by simp), (Upd.refl _ _).setCell _ (by simp)⟩
theorem rows_Int32 (ao : Option Addr) (n c : Nat) (w : World) : Calls Tryz.prog 237 #[.slice ao n c] w fun e w' => e = .returned (.int .i64 n) ∧ w' = w := by
  go_enter Tryz.func237, Tryz.ntmps237
  go_wp2
  go_ret
  exact ⟨rfl, rfl⟩
theorem type_Int32 (v : Value) (w : World) : Calls Tryz.prog 238 #[v] w fun e w' => e = .returned (.string "Int32".toUTF8) ∧ w' = w := by
  go_enter Tryz.func238, Tryz.ntmps238
  go_wp2
  go_ret
  exact ⟨rfl, rfl⟩
theorem reset_Int32 (p : Nat) (e : TypeId) (sz : Nat) (w : World) (h : Hold w p 130 e sz none 0 0 []) : Calls Tryz.prog 235 #[.pointer (some ⟨p, 0, none⟩)] w fun ex w' => ex = .returned (.tuple #[]) ∧ Hold w' p 130 e sz none 0 0 [] ∧ Upd [p] w w' := by
  have hc := h.cell
  have hf := h.free
  go_enter Tryz.func235, Tryz.ntmps235
  go_wp2
  go_end0
  exact ⟨rfl, Hold.stored h.blk Row.nil (by simp), (Upd.refl _ _).setCell _ (by simp)⟩
theorem rows_Int64 (ao : Option Addr) (n c : Nat) (w : World) : Calls Tryz.prog 248 #[.slice ao n c] w fun e w' => e = .returned (.int .i64 n) ∧ w' = w := by
  go_enter Tryz.func248, Tryz.ntmps248
  go_wp2
  go_ret
  exact ⟨rfl, rfl⟩
theorem type_Int64 (v : Value) (w : World) : Calls Tryz.prog 249 #[v] w fun e w' => e = .returned (.string "Int64".toUTF8) ∧ w' = w := by
  go_enter Tryz.func249, Tryz.ntmps249
  go_wp2
  go_ret
  exact ⟨rfl, rfl⟩
theorem reset_Int64 (p : Nat) (e : TypeId) (sz : Nat) (w : World) (h : Hold w p 139 e sz none 0 0 []) : Calls Tryz.prog 246 #[.pointer (some ⟨p, 0, none⟩)] w fun ex w' => ex = .returned (.tuple #[]) ∧ Hold w' p 139 e sz none 0 0 [] ∧ Upd [p] w w' := by
  have hc := h.cell
  have hf := h.free
  go_enter Tryz.func246, Tryz.ntmps246
  go_wp2
  go_end0
  exact ⟨rfl, Hold.stored h.blk Row.nil (by simp), (Upd.refl _ _).setCell _ (by simp)⟩
theorem rows_Int128 (ao : Option Addr) (n c : Nat) (w : World) : Calls Tryz.prog 261 #[.slice ao n c] w fun e w' => e = .returned (.int .i64 n) ∧ w' = w := by
  go_enter Tryz.func261, Tryz.ntmps261
  go_wp2
  go_ret
  exact ⟨rfl, rfl⟩
theorem type_Int128 (v : Value) (w : World) : Calls Tryz.prog 262 #[v] w fun e w' => e = .returned (.string "Int128".toUTF8) ∧ w' = w := by
  go_enter Tryz.func262, Tryz.ntmps262
  go_wp2
  go_ret
  exact ⟨rfl, rfl⟩
theorem reset_Int128 (p : Nat) (e : TypeId) (sz : Nat) (w : World) (h : Hold w p 148 e sz none 0 0 []) : Calls Tryz.prog 259 #[.pointer (some ⟨p, 0, none⟩)] w fun ex w' => ex = .returned (.tuple #[]) ∧ Hold w' p 148 e sz none 0 0 [] ∧ Upd [p] w w' := by
  have hc := h.cell
  have hf := h.free
  go_enter Tryz.func259, Tryz.ntmps259
  go_wp2
  go_end0
  exact ⟨rfl, Hold.stored h.blk Row.nil (by simp), (Upd.refl _ _).setCell _ (by simp)⟩
theorem rows_Int256 (ao : Option Addr) (n c : Nat) (w : World) : Calls Tryz.prog 276 #[.slice ao n c] w fun e w' => e = .returned (.int .i64 n) ∧ w' = w := by
  go_enter Tryz.func276, Tryz.ntmps276
  go_wp2
  go_ret
  exact ⟨rfl, rfl⟩
theorem type_Int256 (v : Value) (w : World) : Calls Tryz.prog 277 #[v] w fun e w' => e = .returned (.string "Int256".toUTF8) ∧ w' = w := by
  go_enter Tryz.func277, Tryz.ntmps277
  go_wp2
  go_ret
  exact ⟨rfl, rfl⟩
theorem reset_Int256 (p : Nat) (e : TypeId) (sz : Nat) (w : World) (h : Hold w p 162 e sz none 0 0 []) : Calls Tryz.prog 274 #[.pointer (some ⟨p, 0, none⟩)] w fun ex w' => ex = .returned (.tuple #[]) ∧ Hold w' p 162 e sz none 0 0 [] ∧ Upd [p] w w' := by
  have hc := h.cell
  have hf := h.free
  go_enter Tryz.func274, Tryz.ntmps274
  go_wp2
  go_end0
  exact ⟨rfl, Hold.stored h.blk Row.nil (by simp), (Upd.refl _ _).setCell _ (by simp)⟩
theorem rows_UInt8 (ao : Option Addr) (n c : Nat) (w : World) : Calls Tryz.prog 289 #[.slice ao n c] w fun e w' => e = .returned (.int .i64 n) ∧ w' = w := by
  go_enter Tryz.func289, Tryz.ntmps289
  go_wp2
  go_ret
  exact ⟨rfl, rfl⟩
theorem type_UInt8 (v : Value) (w : World) : Calls Tryz.prog 290 #[v] w fun e w' => e = .returned (.string "UInt8".toUTF8) ∧ w' = w := by
  go_enter Tryz.func290, Tryz.ntmps290
  go_wp2
  go_ret
  exact ⟨rfl, rfl⟩
theorem reset_UInt8 (p : Nat) (e : TypeId) (sz : Nat) (w : World) (h : Hold w p 172 e sz none 0 0 []) : Calls Tryz.prog 287 #[.pointer (some ⟨p, 0, none⟩)] w fun ex w' => ex = .returned (.tuple #[]) ∧ Hold w' p 172 e sz none 0 0 [] ∧ Upd [p] w w' := by
  have hc := h.cell
  have hf := h.free
  go_enter Tryz.func287, Tryz.ntmps287
  go_wp2
  go_end0
  exact ⟨rfl, Hold.stored h.blk Row.nil (by simp), (Upd.refl _ _).setCell _ (by simp)⟩
theorem rows_UInt16 (ao : Option Addr) (n c : Nat) (w : World) : Calls Tryz.prog 300 #[.slice ao n c] w fun e w' => e = .returned (.int .i64 n) ∧ w' = w := by
  go_enter Tryz.func300, Tryz.ntmps300
  go_wp2
  go_ret
  exact ⟨rfl, rfl⟩
theorem type_UInt16 (v : Value) (w : World) : Calls Tryz.prog 301 #[v] w fun e w' => e = .returned (.string "UInt16".toUTF8) ∧ w' = w := by
  go_enter Tryz.func301, Tryz.ntmps301
  go_wp2
  go_ret
  exact ⟨rfl, rfl⟩
theorem reset_UInt16 (p : Nat) (e : TypeId) (sz : Nat) (w : World) (h : Hold w p 181 e sz none 0 0 []) : Calls Tryz.prog 298 #[.pointer (some ⟨p, 0, none⟩)] w fun ex w' => ex = .returned (.tuple #[]) ∧ Hold w' p 181 e sz none 0 0 [] ∧ Upd [p] w w' := by
  have hc := h.cell
  have hf := h.free
  go_enter Tryz.func298, Tryz.ntmps298
  go_wp2
  go_end0
  exact ⟨rfl, Hold.stored h.blk Row.nil (by simp), (Upd.refl _ _).setCell _ (by simp)⟩
theorem rows_UInt32 (ao : Option Addr) (n c : Nat) (w : World) : Calls Tryz.prog 311 #[.slice ao n c] w fun e w' => e = .returned (.int .i64 n) ∧ w' = w := by
  go_enter Tryz.func311, Tryz.ntmps311
  go_wp2
  go_ret
  exact ⟨rfl, rfl⟩
theorem type_UInt32 (v : Value) (w : World) : Calls Tryz.prog 312 #[v] w fun e w' => e = .returned (.string "UInt32".toUTF8) ∧ w' = w := by
  go_enter Tryz.func312, Tryz.ntmps312
  go_wp2
  go_ret
  exact ⟨rfl, rfl⟩
theorem reset_UInt32 (p : Nat) (e : TypeId) (sz : Nat) (w : World) (h : Hold w p 190 e sz none 0 0 []) : Calls Tryz.prog 309 #[.pointer (some ⟨p, 0, none⟩)] w fun ex w' => ex = .returned (.tuple #[]) ∧ Hold w' p 190 e sz none 0 0 [] ∧ Upd [p] w w' := by
  have hc := h.cell
  have hf := h.free
  go_enter Tryz.func309, Tryz.ntmps309
  go_wp2
  go_end0
  exact ⟨rfl, Hold.stored h.blk Row.nil (by simp), (Upd.refl _ _).setCell _ (by simp)⟩
theorem rows_UInt64 (ao : Option Addr) (n c : Nat) (w : World) : Calls Tryz.prog 322 #[.slice ao n c] w fun e w' => e = .returned (.int .i64 n) ∧ w' = w := by
  go_enter Tryz.func322, Tryz.ntmps322
  go_wp2
  go_ret
  exact ⟨rfl, rfl⟩
theorem type_UInt64 (v : Value) (w : World) : Calls Tryz.prog 323 #[v] w fun e w' => e = .returned (.string "UInt64".toUTF8) ∧ w' = w := by
  go_enter Tryz.func323, Tryz.ntmps323
  go_wp2
  go_ret
  exact ⟨rfl, rfl⟩
theorem reset_UInt64 (p : Nat) (e : TypeId) (sz : Nat) (w : World) (h : Hold w p 199 e sz none 0 0 []) : Calls Tryz.prog 320 #[.pointer (some ⟨p, 0, none⟩)] w fun ex w' => ex = .returned (.tuple #[]) ∧ Hold w' p 199 e sz none 0 0 [] ∧ Upd [p] w w' := by
  have hc := h.cell
  have hf := h.free
  go_enter Tryz.func320, Tryz.ntmps320
  go_wp2
  go_end0
  exact ⟨rfl, Hold.stored h.blk Row.nil (by simp), (Upd.refl _ _).setCell _ (by simp)⟩
theorem rows_UInt128 (ao : Option Addr) (n c : Nat) (w : World) : Calls Tryz.prog 334 #[.slice ao n c] w fun e w' => e = .returned (.int .i64 n) ∧ w' = w := by
  go_enter Tryz.func334, Tryz.ntmps334
  go_wp2
  go_ret
  exact ⟨rfl, rfl⟩
theorem type_UInt128 (v : Value) (w : World) : Calls Tryz.prog 335 #[v] w fun e w' => e = .returned (.string "UInt128".toUTF8) ∧ w' = w := by
  go_enter Tryz.func335, Tryz.ntmps335
  go_wp2
  go_ret
  exact ⟨rfl, rfl⟩
theorem reset_UInt128 (p : Nat) (e : TypeId) (sz : Nat) (w : World) (h : Hold w p 244 e sz none 0 0 []) : Calls Tryz.prog 332 #[.pointer (some ⟨p, 0, none⟩)] w fun ex w' => ex = .returned (.tuple #[]) ∧ Hold w' p 244 e sz none 0 0 [] ∧ Upd [p] w w' := by
  have hc := h.cell
  have hf := h.free
  go_enter Tryz.func332, Tryz.ntmps332
  go_wp2
  go_end0
  exact ⟨rfl, Hold.stored h.blk Row.nil (by simp), (Upd.refl _ _).setCell _ (by simp)⟩
theorem rows_UInt256 (ao : Option Addr) (n c : Nat) (w : World) : Calls Tryz.prog 345 #[.slice ao n c] w fun e w' => e = .returned (.int .i64 n) ∧ w' = w := by
  go_enter Tryz.func345, Tryz.ntmps345
  go_wp2
  go_ret
  exact ⟨rfl, rfl⟩
theorem type_UInt256 (v : Value) (w : World) : Calls Tryz.prog 346 #[v] w fun e w' => e = .returned (.string "UInt256".toUTF8) ∧ w' = w := by
  go_enter Tryz.func346, Tryz.ntmps346
  go_wp2
  go_ret
  exact ⟨rfl, rfl⟩
theorem reset_UInt256 (p : Nat) (e : TypeId) (sz : Nat) (w : World) (h : Hold w p 252 e sz none 0 0 []) : Calls Tryz.prog 343 #[.pointer (some ⟨p, 0, none⟩)] w fun ex w' => ex = .returned (.tuple #[]) ∧ Hold w' p 252 e sz none 0 0 [] ∧ Upd [p] w w' := by
  have hc := h.cell
  have hf := h.free
  go_enter Tryz.func343, Tryz.ntmps343
  go_wp2
  go_end0
  exact ⟨rfl, Hold.stored h.blk Row.nil (by simp), (Upd.refl _ _).setCell _ (by simp)⟩
theorem rows_Float32 (ao : Option Addr) (n c : Nat) (w : World) : Calls Tryz.prog 356 #[.slice ao n c] w fun e w' => e = .returned (.int .i64 n) ∧ w' = w := by
  go_enter Tryz.func356, Tryz.ntmps356
  go_wp2
  go_ret
  exact ⟨rfl, rfl⟩
theorem type_Float32 (v : Value) (w : World) : Calls Tryz.prog 357 #[v] w fun e w' => e = .returned (.string "Float32".toUTF8) ∧ w' = w := by
  go_enter Tryz.func357, Tryz.ntmps357
  go_wp2
  go_ret
  exact ⟨rfl, rfl⟩
theorem reset_Float32 (p : Nat) (e : TypeId) (sz : Nat) (w : World) (h : Hold w p 262 e sz none 0 0 []) : Calls Tryz.prog 354 #[.pointer (some ⟨p, 0, none⟩)] w fun ex w' => ex = .returned (.tuple #[]) ∧ Hold w' p 262 e sz none 0 0 [] ∧ Upd [p] w w' := by
  have hc := h.cell
  have hf := h.free
  go_enter Tryz.func354, Tryz.ntmps354
  go_wp2
  go_end0
  exact ⟨rfl, Hold.stored h.blk Row.nil (by simp), (Upd.refl _ _).setCell _ (by simp)⟩
theorem rows_Float64 (ao : Option Addr) (n c : Nat) (w : World) : Calls Tryz.prog 367 #[.slice ao n c] w fun e w' => e = .returned (.int .i64 n) ∧ w' = w := by
  go_enter Tryz.func367, Tryz.ntmps367
  go_wp2
  go_ret
  exact ⟨rfl, rfl⟩
theorem type_Float64 (v : Value) (w : World) : Calls Tryz.prog 368 #[v] w fun e w' => e = .returned (.string "Float64".toUTF8) ∧ w' = w := by
  go_enter Tryz.func368, Tryz.ntmps368
  go_wp2
  go_ret
  exact ⟨rfl, rfl⟩
theorem reset_Float64 (p : Nat) (e : TypeId) (sz : Nat) (w : World) (h : Hold w p 271 e sz none 0 0 []) : Calls Tryz.prog 365 #[.pointer (some ⟨p, 0, none⟩)] w fun ex w' => ex = .returned (.tuple #[]) ∧ Hold w' p 271 e sz none 0 0 [] ∧ Upd [p] w w' := by
  have hc := h.cell
  have hf := h.free
  go_enter Tryz.func365, Tryz.ntmps365
  go_wp2
  go_end0
  exact ⟨rfl, Hold.stored h.blk Row.nil (by simp), (Upd.refl _ _).setCell _ (by simp)⟩
theorem rows_BFloat16 (ao : Option Addr) (n c : Nat) (w : World) : Calls Tryz.prog 379 #[.slice ao n c] w fun e w' => e = .returned (.int .i64 n) ∧ w' = w := by
  go_enter Tryz.func379, Tryz.ntmps379
  go_wp2
  go_ret
  exact ⟨rfl, rfl⟩
theorem type_BFloat16 (v : Value) (w : World) : Calls Tryz.prog 380 #[v] w fun e w' => e = .returned (.string "BFloat16".toUTF8) ∧ w' = w := by
  go_enter Tryz.func380, Tryz.ntmps380
  go_wp2
  go_ret
  exact ⟨rfl, rfl⟩
theorem reset_BFloat16 (p : Nat) (e : TypeId) (sz : Nat) (w : World) (h : Hold w p 282 e sz none 0 0 []) : Calls Tryz.prog 377 #[.pointer (some ⟨p, 0, none⟩)] w fun ex w' => ex = .returned (.tuple #[]) ∧ Hold w' p 282 e sz none 0 0 [] ∧ Upd [p] w w' := by
  have hc := h.cell
  have hf := h.free
  go_enter Tryz.func377, Tryz.ntmps377
  go_wp2
  go_end0
  exact ⟨rfl, Hold.stored h.blk Row.nil (by simp), (Upd.refl _ _).setCell _ (by simp)⟩
theorem rows_Bool (ao : Option Addr) (n c : Nat) (w : World) : Calls Tryz.prog 389 #[.slice ao n c] w fun e w' => e = .returned (.int .i64 n) ∧ w' = w := by
  go_enter Tryz.func389, Tryz.ntmps389
  go_wp2
  go_ret
  exact ⟨rfl, rfl⟩
theorem type_Bool (v : Value) (w : World) : Calls Tryz.prog 390 #[v] w fun e w' => e = .returned (.string "Bool".toUTF8) ∧ w' = w := by
  go_enter Tryz.func390, Tryz.ntmps390
  go_wp2
  go_ret
  exact ⟨rfl, rfl⟩
theorem reset_Bool (p : Nat) (e : TypeId) (sz : Nat) (w : World) (h : Hold w p 285 e sz none 0 0 []) : Calls Tryz.prog 387 #[.pointer (some ⟨p, 0, none⟩)] w fun ex w' => ex = .returned (.tuple #[]) ∧ Hold w' p 285 e sz none 0 0 [] ∧ Upd [p] w w' := by
  have hc := h.cell
  have hf := h.free
  go_enter Tryz.func387, Tryz.ntmps387
  go_wp2
  go_end0
  exact ⟨rfl, Hold.stored h.blk Row.nil (by simp), (Upd.refl _ _).setCell _ (by simp)⟩
theorem rows_IPv4 (ao : Option Addr) (n c : Nat) (w : World) : Calls Tryz.prog 401 #[.slice ao n c] w fun e w' => e = .returned (.int .i64 n) ∧ w' = w := by
  go_enter Tryz.func401, Tryz.ntmps401
  go_wp2
  go_ret
  exact ⟨rfl, rfl⟩
theorem type_IPv4 (v : Value) (w : World) : Calls Tryz.prog 402 #[v] w fun e w' => e = .returned (.string "IPv4".toUTF8) ∧ w' = w := by
  go_enter Tryz.func402, Tryz.ntmps402
  go_wp2
  go_ret
  exact ⟨rfl, rfl⟩
theorem reset_IPv4 (p : Nat) (e : TypeId) (sz : Nat) (w : World) (h : Hold w p 293 e sz none 0 0 []) : Calls Tryz.prog 399 #[.pointer (some ⟨p, 0, none⟩)] w fun ex w' => ex = .returned (.tuple #[]) ∧ Hold w' p 293 e sz none 0 0 [] ∧ Upd [p] w w' := by
  have hc := h.cell
  have hf := h.free
  go_enter Tryz.func399, Tryz.ntmps399
  go_wp2
  go_end0
  exact ⟨rfl, Hold.stored h.blk Row.nil (by simp), (Upd.refl _ _).setCell _ (by simp)⟩
theorem rows_IPv6 (ao : Option Addr) (n c : Nat) (w : World) : Calls Tryz.prog 412 #[.slice ao n c] w fun e w' => e = .returned (.int .i64 n) ∧ w' = w := by
  go_enter Tryz.func412, Tryz.ntmps412
  go_wp2
  go_ret
  exact ⟨rfl, rfl⟩
theorem type_IPv6 (v : Value) (w : World) : Calls Tryz.prog 413 #[v] w fun e w' => e = .returned (.string "IPv6".toUTF8) ∧ w' = w := by
  go_enter Tryz.func413, Tryz.ntmps413
  go_wp2
  go_ret
  exact ⟨rfl, rfl⟩
theorem reset_IPv6 (p : Nat) (e : TypeId) (sz : Nat) (w : World) (h : Hold w p 303 e sz none 0 0 []) : Calls Tryz.prog 410 #[.pointer (some ⟨p, 0, none⟩)] w fun ex w' => ex = .returned (.tuple #[]) ∧ Hold w' p 303 e sz none 0 0 [] ∧ Upd [p] w w' := by
  have hc := h.cell
  have hf := h.free
  go_enter Tryz.func410, Tryz.ntmps410
  go_wp2
  go_end0
  exact ⟨rfl, Hold.stored h.blk Row.nil (by simp), (Upd.refl _ _).setCell _ (by simp)⟩
theorem row_Int8 (g n c i : Nat) (v : Value) (w : World) (h : w.cell? ⟨g, i, none⟩ = some v) (hi : i < n) : Calls Tryz.prog 466 #[.slice (some ⟨g, 0, none⟩) n c, .int .i64 i] w fun e w' => e = .returned v ∧ Upd [] w w' := by
  have hk0 : ((i : Int) < n) := by omega
  go_enter Tryz.func466, Tryz.ntmps466
  go_wp2
  go_ret
  exact ⟨rfl, Upd.refl _ _⟩
theorem row_Int16 (g n c i : Nat) (v : Value) (w : World) (h : w.cell? ⟨g, i, none⟩ = some v) (hi : i < n) : Calls Tryz.prog 223 #[.slice (some ⟨g, 0, none⟩) n c, .int .i64 i] w fun e w' => e = .returned v ∧ Upd [] w w' := by
  have hk0 : ((i : Int) < n) := by omega
  go_enter Tryz.func223, Tryz.ntmps223
  go_wp2
  go_ret
  exact ⟨rfl, Upd.refl _ _⟩
theorem row_Int32 (g n c i : Nat) (v : Value) (w : World) (h : w.cell? ⟨g, i, none⟩ = some v) (hi : i < n) : Calls Tryz.prog 236 #[.slice (some ⟨g, 0, none⟩) n c, .int .i64 i] w fun e w' => e = .returned v ∧ Upd [] w w' := by
  have hk0 : ((i : Int) < n) := by omega
  go_enter Tryz.func236, Tryz.ntmps236
  go_wp2
  go_ret
  exact ⟨rfl, Upd.refl _ _⟩
theorem row_Int64 (g n c i : Nat) (v : Value) (w : World) (h : w.cell? ⟨g, i, none⟩ = some v) (hi : i < n) : Calls Tryz.prog 247 #[.slice (some ⟨g, 0, none⟩) n c, .int .i64 i] w fun e w' => e = .returned v ∧ Upd [] w w' := by
  have hk0 : ((i : Int) < n) := by omega
  go_enter Tryz.func247, Tryz.ntmps247
  go_wp2
  go_ret
  exact ⟨rfl, Upd.refl _ _⟩
theorem row_UInt8 (g n c i : Nat) (v : Value) (w : World) (h : w.cell? ⟨g, i, none⟩ = some v) (hi : i < n) : Calls Tryz.prog 288 #[.slice (some ⟨g, 0, none⟩) n c, .int .i64 i] w fun e w' => e = .returned v ∧ Upd [] w w' := by
  have hk0 : ((i : Int) < n) := by omega
  go_enter Tryz.func288, Tryz.ntmps288
  go_wp2
  go_ret
  exact ⟨rfl, Upd.refl _ _⟩
theorem row_UInt16 (g n c i : Nat) (v : Value) (w : World) (h : w.cell? ⟨g, i, none⟩ = some v) (hi : i < n) : Calls Tryz.prog 299 #[.slice (some ⟨g, 0, none⟩) n c, .int .i64 i] w fun e w' => e = .returned v ∧ Upd [] w w' := by
  have hk0 : ((i : Int) < n) := by omega
  go_enter Tryz.func299, Tryz.ntmps299
  go_wp2
  go_ret
  exact ⟨rfl, Upd.refl _ _⟩
theorem row_UInt32 (g n c i : Nat) (v : Value) (w : World) (h : w.cell? ⟨g, i, none⟩ = some v) (hi : i < n) : Calls Tryz.prog 310 #[.slice (some ⟨g, 0, none⟩) n c, .int .i64 i] w fun e w' => e = .returned v ∧ Upd [] w w' := by
  have hk0 : ((i : Int) < n) := by omega
  go_enter Tryz.func310, Tryz.ntmps310
  go_wp2
  go_ret
  exact ⟨rfl, Upd.refl _ _⟩
theorem row_UInt64 (g n c i : Nat) (v : Value) (w : World) (h : w.cell? ⟨g, i, none⟩ = some v) (hi : i < n) : Calls Tryz.prog 321 #[.slice (some ⟨g, 0, none⟩) n c, .int .i64 i] w fun e w' => e = .returned v ∧ Upd [] w w' := by
  have hk0 : ((i : Int) < n) := by omega
  go_enter Tryz.func321, Tryz.ntmps321
  go_wp2
  go_ret
  exact ⟨rfl, Upd.refl _ _⟩
theorem row_Float32 (g n c i : Nat) (v : Value) (w : World) (h : w.cell? ⟨g, i, none⟩ = some v) (hi : i < n) : Calls Tryz.prog 355 #[.slice (some ⟨g, 0, none⟩) n c, .int .i64 i] w fun e w' => e = .returned v ∧ Upd [] w w' := by
  have hk0 : ((i : Int) < n) := by omega
  go_enter Tryz.func355, Tryz.ntmps355
  go_wp2
  go_ret
  exact ⟨rfl, Upd.refl _ _⟩
theorem row_Float64 (g n c i : Nat) (v : Value) (w : World) (h : w.cell? ⟨g, i, none⟩ = some v) (hi : i < n) : Calls Tryz.prog 366 #[.slice (some ⟨g, 0, none⟩) n c, .int .i64 i] w fun e w' => e = .returned v ∧ Upd [] w w' := by
  have hk0 : ((i : Int) < n) := by omega
  go_enter Tryz.func366, Tryz.ntmps366
  go_wp2
  go_ret
  exact ⟨rfl, Upd.refl _ _⟩
theorem row_Bool (g n c i : Nat) (v : Value) (w : World) (h : w.cell? ⟨g, i, none⟩ = some v) (hi : i < n) : Calls Tryz.prog 388 #[.slice (some ⟨g, 0, none⟩) n c, .int .i64 i] w fun e w' => e = .returned v ∧ Upd [] w w' := by
  have hk0 : ((i : Int) < n) := by omega
  go_enter Tryz.func388, Tryz.ntmps388
  go_wp2
  go_ret
  exact ⟨rfl, Upd.refl _ _⟩
theorem row_IPv4 (g n c i : Nat) (v : Value) (w : World) (h : w.cell? ⟨g, i, none⟩ = some v) (hi : i < n) : Calls Tryz.prog 400 #[.slice (some ⟨g, 0, none⟩) n c, .int .i64 i] w fun e w' => e = .returned v ∧ Upd [] w w' := by
  have hk0 : ((i : Int) < n) := by omega
  go_enter Tryz.func400, Tryz.ntmps400
  go_wp2
  go_ret
  exact ⟨rfl, Upd.refl _ _⟩
theorem row_Int128 (g n c i : Nat) (cs : List Value) (w : World) (h : w.rangeAt g (i * 2) cs) (hl : cs.length = 2) (h1 : ∀ u ∈ cs, u.oneCell' = true) (hg : g < w.heap.size) (hi : i < n) : Calls Tryz.prog 260 #[.slice (some ⟨g, 0, none⟩) n c, .int .i64 i] w fun e w' => e = .returned (.agg cs.toArray) ∧ Upd [] w w' := by
  have hk0 : ((i : Int) < n) := by omega
  have hs : (Tryz.prog.info? 150).map (·.size) = some cs.length := by rw [hl]; kernel_rfl
  go_enter Tryz.func260, Tryz.ntmps260
  have hk1 := heap_alloc_new w
  have hu1 := fun o => (Upd.refl [] w).alloc o
  go_wp2_with (first
    | ((with_reducible show wpList _ _ _ _ _ _); with_reducible refine wpList_load_mid rfl 150 (.tmp 7) rfl g (i * 2) rfl cs _ ((hu1 _).range h hg (by simp)) Tryz.underlying150 rfl hs ?_)
    | ((with_reducible show wpList _ _ _ _ _ _); refine wpList_store_blk rfl 150 (.tmp 4) (.tmp 8) rfl (b := w.heap.size) rfl (hk1 _) (cs := cs) rfl (by rw [hl]; rfl) hs h1 ?_; intro w4 hb4 hu4; simp only [Act.put]))
  refine bodyPost_ret (results_cell1 Tryz.results260 (b := w.heap.size) rfl (run_loadVar_mid _ w.heap.size 0 150 cs _ (rangeAt_blk hb4) Tryz.underlying150 rfl hs)) rfl ⟨rfl, ?_⟩
  exact (hu1 _).trans hu4 (fun y hy => by simp at hy; exact .inr (by omega))
theorem row_UInt128 (g n c i : Nat) (cs : List Value) (w : World) (h : w.rangeAt g (i * 2) cs) (hl : cs.length = 2) (h1 : ∀ u ∈ cs, u.oneCell' = true) (hg : g < w.heap.size) (hi : i < n) : Calls Tryz.prog 333 #[.slice (some ⟨g, 0, none⟩) n c, .int .i64 i] w fun e w' => e = .returned (.agg cs.toArray) ∧ Upd [] w w' := by
  have hk0 : ((i : Int) < n) := by omega
  have hs : (Tryz.prog.info? 151).map (·.size) = some cs.length := by rw [hl]; kernel_rfl
  go_enter Tryz.func333, Tryz.ntmps333
  have hk1 := heap_alloc_new w
  have hu1 := fun o => (Upd.refl [] w).alloc o
  go_wp2_with (first
    | ((with_reducible show wpList _ _ _ _ _ _); with_reducible refine wpList_load_mid rfl 151 (.tmp 7) rfl g (i * 2) rfl cs _ ((hu1 _).range h hg (by simp)) Tryz.underlying151 rfl hs ?_)
    | ((with_reducible show wpList _ _ _ _ _ _); refine wpList_store_blk rfl 151 (.tmp 4) (.tmp 8) rfl (b := w.heap.size) rfl (hk1 _) (cs := cs) rfl (by rw [hl]; rfl) hs h1 ?_; intro w4 hb4 hu4; simp only [Act.put]))
  refine bodyPost_ret (results_cell1 Tryz.results333 (b := w.heap.size) rfl (run_loadVar_mid _ w.heap.size 0 151 cs _ (rangeAt_blk hb4) Tryz.underlying151 rfl hs)) rfl ⟨rfl, ?_⟩
  exact (hu1 _).trans hu4 (fun y hy => by simp at hy; exact .inr (by omega))
theorem row_Int256 (g n c i : Nat) (cs : List Value) (w : World) (h : w.rangeAt g (i * 4) cs) (hl : cs.length = 4) (h1 : ∀ u ∈ cs, u.oneCell' = true) (hg : g < w.heap.size) (hi : i < n) : Calls Tryz.prog 275 #[.slice (some ⟨g, 0, none⟩) n c, .int .i64 i] w fun e w' => e = .returned (.agg cs.toArray) ∧ Upd [] w w' := by
  have hk0 : ((i : Int) < n) := by omega
  have hs : (Tryz.prog.info? 164).map (·.size) = some cs.length := by rw [hl]; kernel_rfl
  go_enter Tryz.func275, Tryz.ntmps275
  have hk1 := heap_alloc_new w
  have hu1 := fun o => (Upd.refl [] w).alloc o
  go_wp2_with (first
    | ((with_reducible show wpList _ _ _ _ _ _); with_reducible refine wpList_load_mid rfl 164 (.tmp 7) rfl g (i * 4) rfl cs _ ((hu1 _).range h hg (by simp)) Tryz.underlying164 rfl hs ?_)
    | ((with_reducible show wpList _ _ _ _ _ _); refine wpList_store_blk rfl 164 (.tmp 4) (.tmp 8) rfl (b := w.heap.size) rfl (hk1 _) (cs := cs) rfl (by rw [hl]; rfl) hs h1 ?_; intro w4 hb4 hu4; simp only [Act.put]))
  refine bodyPost_ret (results_cell1 Tryz.results275 (b := w.heap.size) rfl (run_loadVar_mid _ w.heap.size 0 164 cs _ (rangeAt_blk hb4) Tryz.underlying164 rfl hs)) rfl ⟨rfl, ?_⟩
  exact (hu1 _).trans hu4 (fun y hy => by simp at hy; exact .inr (by omega))
theorem row_UInt256 (g n c i : Nat) (cs : List Value) (w : World) (h : w.rangeAt g (i * 4) cs) (hl : cs.length = 4) (h1 : ∀ u ∈ cs, u.oneCell' = true) (hg : g < w.heap.size) (hi : i < n) : Calls Tryz.prog 344 #[.slice (some ⟨g, 0, none⟩) n c, .int .i64 i] w fun e w' => e = .returned (.agg cs.toArray) ∧ Upd [] w w' := by
  have hk0 : ((i : Int) < n) := by omega
  have hs : (Tryz.prog.info? 253).map (·.size) = some cs.length := by rw [hl]; kernel_rfl
  go_enter Tryz.func344, Tryz.ntmps344
  have hk1 := heap_alloc_new w
  have hu1 := fun o => (Upd.refl [] w).alloc o
  go_wp2_with (first
    | ((with_reducible show wpList _ _ _ _ _ _); with_reducible refine wpList_load_mid rfl 253 (.tmp 7) rfl g (i * 4) rfl cs _ ((hu1 _).range h hg (by simp)) Tryz.underlying253 rfl hs ?_)
    | ((with_reducible show wpList _ _ _ _ _ _); refine wpList_store_blk rfl 253 (.tmp 4) (.tmp 8) rfl (b := w.heap.size) rfl (hk1 _) (cs := cs) rfl (by rw [hl]; rfl) hs h1 ?_; intro w4 hb4 hu4; simp only [Act.put]))
  refine bodyPost_ret (results_cell1 Tryz.results344 (b := w.heap.size) rfl (run_loadVar_mid _ w.heap.size 0 253 cs _ (rangeAt_blk hb4) Tryz.underlying253 rfl hs)) rfl ⟨rfl, ?_⟩
  exact (hu1 _).trans hu4 (fun y hy => by simp at hy; exact .inr (by omega))
theorem row_IPv6 (g n c i : Nat) (cs : List Value) (w : World) (h : w.rangeAt g (i * 16) cs) (hl : cs.length = 16) (h1 : ∀ u ∈ cs, u.oneCell' = true) (hg : g < w.heap.size) (hi : i < n) : Calls Tryz.prog 411 #[.slice (some ⟨g, 0, none⟩) n c, .int .i64 i] w fun e w' => e = .returned (.agg cs.toArray) ∧ Upd [] w w' := by
  have hk0 : ((i : Int) < n) := by omega
  have hs : (Tryz.prog.info? 305).map (·.size) = some cs.length := by rw [hl]; kernel_rfl
  go_enter Tryz.func411, Tryz.ntmps411
  have hk1 := heap_alloc_new w
  have hu1 := fun o => (Upd.refl [] w).alloc o
  go_wp2_with (first
    | ((with_reducible show wpList _ _ _ _ _ _); with_reducible refine wpList_load_mid rfl 305 (.tmp 7) rfl g (i * 16) rfl cs _ ((hu1 _).range h hg (by simp)) Tryz.underlying305 rfl hs ?_)
    | ((with_reducible show wpList _ _ _ _ _ _); refine wpList_store_blk rfl 305 (.tmp 4) (.tmp 8) rfl (b := w.heap.size) rfl (hk1 _) (cs := cs) rfl (by rw [hl]; rfl) hs h1 ?_; intro w4 hb4 hu4; simp only [Act.put]))
  refine bodyPost_ret (results_cell1 Tryz.results411 (b := w.heap.size) rfl (run_loadVar_mid _ w.heap.size 0 305 cs _ (rangeAt_blk hb4) Tryz.underlying305 rfl hs)) rfl ⟨rfl, ?_⟩
  exact (hu1 _).trans hu4 (fun y hy => by simp at hy; exact .inr (by omega))
theorem row_BFloat16 (g n c i : Nat) (x : Int) (hx : 0 ≤ x ∧ x < 65536) (w : World) (h : w.cell? ⟨g, i, none⟩ = some (.int .u16 x)) (hi : i < n) : Calls Tryz.prog 378 #[.slice (some ⟨g, 0, none⟩) n c, .int .i64 i] w fun e w' => e = .returned (.float .f32 (x * 65536).toNat) ∧ Upd [] w w' := by
  have hk0 : ((i : Int) < n) := by omega
  go_enter Tryz.func378, Tryz.ntmps378
  go_wp2_with (go_at_call 383; (refine (ofBF x hx _).mono ?_); rintro e w2 ⟨rfl, rfl⟩)
  go_ret
  exact ⟨rfl, Upd.refl _ _⟩
theorem out_ipx (x0 x1 x2 x3 x4 x5 x6 x7 y0 y1 y2 y3 y4 y5 y6 y7 : Int) (hx : ∀ x ∈ [x0, x1, x2, x3, x4, x5, x6, x7, y0, y1, y2, y3, y4, y5, y6, y7], 0 ≤ x ∧ x < 256) (w : World) :
    Calls Tryz.prog 101 #[.agg (([x0, x1, x2, x3, x4, x5, x6, x7, y0, y1, y2, y3, y4, y5, y6, y7] : List Int).map (Value.int .u8)).toArray] w fun e w' => e = .returned (R4.agg ⟨psum [x0, x1, x2, x3, x4, x5, x6, x7] 8, psum [y0, y1, y2, y3, y4, y5, y6, y7] 8, 0, 0⟩) ∧ Upd [] w w' := by
  have hrow := row16 x0 x1 x2 x3 x4 x5 x6 x7 y0 y1 y2 y3 y4 y5 y6 y7 hx
  obtain ⟨A, hA⟩ : ∃ A, A = psum [x0, x1, x2, x3, x4, x5, x6, x7] 8 := ⟨_, rfl⟩
  obtain ⟨B, hB⟩ : ∃ B, B = psum [y0, y1, y2, y3, y4, y5, y6, y7] 8 := ⟨_, rfl⟩
  rw [← hA, ← hB] at hrow ⊢
  clear hA hB
  simp only [List.map_cons, List.map_nil, R4.agg] at hrow ⊢
  obtain ⟨k1, u1, s1⟩ := alloc_facts w (Obj.cells #[.int .u8 x0, .int .u8 x1, .int .u8 x2, .int .u8 x3, .int .u8 x4, .int .u8 x5, .int .u8 x6, .int .u8 x7, .int .u8 y0, .int .u8 y1, .int .u8 y2, .int .u8 y3, .int .u8 y4, .int .u8 y5, .int .u8 y6, .int .u8 y7] 305)
  obtain ⟨k2, u2, s2⟩ := alloc_facts (w.alloc (Obj.cells #[.int .u8 x0, .int .u8 x1, .int .u8 x2, .int .u8 x3, .int .u8 x4, .int .u8 x5, .int .u8 x6, .int .u8 x7, .int .u8 y0, .int .u8 y1, .int .u8 y2, .int .u8 y3, .int .u8 y4, .int .u8 y5, .int .u8 y6, .int .u8 y7] 305)) (Obj.cells #[.int .u64 0, .int .u64 0, .int .u64 0, .int .u64 0] 71)
  have r1 := rangeAt_blk (cs := [.int .u8 x0, .int .u8 x1, .int .u8 x2, .int .u8 x3, .int .u8 x4, .int .u8 x5, .int .u8 x6, .int .u8 x7, .int .u8 y0, .int .u8 y1, .int .u8 y2, .int .u8 y3, .int .u8 y4, .int .u8 y5, .int .u8 y6, .int .u8 y7]) (u2.at k1 (by simp))
  rw [s1] at k2
  go_enter Tryz.func101, Tryz.ntmps101
  go_wp2_with (first
    | ((with_reducible show wpList _ _ _ _ _ _); with_reducible refine wpList_load_mid rfl 305 (.tmp 1) rfl w.heap.size 0 rfl [.int .u8 x0, .int .u8 x1, .int .u8 x2, .int .u8 x3, .int .u8 x4, .int .u8 x5, .int .u8 x6, .int .u8 x7, .int .u8 y0, .int .u8 y1, .int .u8 y2, .int .u8 y3, .int .u8 y4, .int .u8 y5, .int .u8 y6, .int .u8 y7] _ r1 Tryz.underlying305 rfl (by kernel_rfl) ?_)
    | (go_at_call 102; (refine (hrow _).mono ?_); rintro e w2 ⟨rfl, hu2⟩; have k3 := hu2.at k2 (by simp))
    | ((with_reducible show wpList _ _ _ _ _ _); refine wpList_store_blk rfl 71 (.tmp 2) (.tmp 4) rfl (b := w.heap.size + 1) rfl k3 (cs := [.int .u64 A, .int .u64 B, .int .u64 0, .int .u64 0]) rfl rfl (by kernel_rfl) (by simp [Value.oneCell']) ?_; intro w4 hb4 hu4; simp only [Act.put]))
  refine bodyPost_ret (results_cell1 Tryz.results101 (b := w.heap.size + 1) rfl (run_loadVar_mid _ (w.heap.size + 1) 0 71 [.int .u64 A, .int .u64 B, .int .u64 0, .int .u64 0] _ (rangeAt_blk hb4) Tryz.underlying71 rfl (by kernel_rfl))) rfl ⟨rfl, ?_⟩
  exact ((u1.trans u2 (fun _ h => .inl h)).trans hu2 (fun _ h => .inl h)).trans hu4 (fun y hy => by simp at hy; exact .inr (by omega))
theorem psum8 (a : Int) (h : 0 ≤ a ∧ a < 18446744073709551616) : psum [byteAt a 0, byteAt a 1, byteAt a 2, byteAt a 3, byteAt a 4, byteAt a 5, byteAt a 6, byteAt a 7] 8 = a := by
  simp only [psum, byteAt]
  omega
theorem lowV16 (a b : Int) : lowV a b 16 = (([byteAt a 0, byteAt a 1, byteAt a 2, byteAt a 3, byteAt a 4, byteAt a 5, byteAt a 6, byteAt a 7] ++ [byteAt b 0, byteAt b 1, byteAt b 2, byteAt b 3, byteAt b 4, byteAt b 5, byteAt b 6, byteAt b 7] : List Int)).map (Value.int .u8) := rfl
theorem out_ip (a b : Int) (ha : 0 ≤ a ∧ a < 18446744073709551616) (hb : 0 ≤ b ∧ b < 18446744073709551616) (w : World) :
    Calls Tryz.prog 101 #[.agg (lowV a b 16).toArray] w fun e w' => e = .returned (R4.agg ⟨a, b, 0, 0⟩) ∧ Upd [] w w' := by
  have h := out_ipx (byteAt a 0) (byteAt a 1) (byteAt a 2) (byteAt a 3) (byteAt a 4) (byteAt a 5) (byteAt a 6) (byteAt a 7) (byteAt b 0) (byteAt b 1) (byteAt b 2) (byteAt b 3) (byteAt b 4) (byteAt b 5) (byteAt b 6) (byteAt b 7) (by
    intro x hx
    simp only [List.mem_cons, List.not_mem_nil, or_false] at hx
    rcases hx with rfl | rfl | rfl | rfl | rfl | rfl | rfl | rfl | rfl | rfl | rfl | rfl | rfl | rfl | rfl | rfl <;> exact byteAt_range _ _) w
  rw [psum8 a ha, psum8 b hb] at h
  exact h
end Go.Proofs.YteimeeepcfcfcaaGreatDoor
