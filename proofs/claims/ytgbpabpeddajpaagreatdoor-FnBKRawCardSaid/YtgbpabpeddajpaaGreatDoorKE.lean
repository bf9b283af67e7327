/- Row, Rows, Type, Reset of each column; an address read back. -/
import Derived.Test.YtgbpabpeddajpaaGreatDoorKC
import Derived.Test.YtgbpabpeddajpaaGreatDoorKW
namespace Go.Proofs.YtgbpabpeddajpaaGreatDoor
set_option linter.unusedVariables false
set_option linter.unusedSimpArgs false
open Go Go.RowKit
set_option maxRecDepth 100000 in
set_option maxHeartbeats 400000 in
theorem rows_Int8 (ao : Option Addr) (n c : Nat) (w : World) : Calls Tryz.prog 209 #[.slice ao n c] w fun e w' => e = .returned (.int .i64 n) ∧ w' = w := by
  go_enter Tryz.func209, Tryz.ntmps209
  go_wp2
  go_ret
  exact ⟨rfl, rfl⟩
set_option maxRecDepth 100000 in
set_option maxHeartbeats 400000 in
theorem type_Int8 (v : Value) (w : World) : Calls Tryz.prog 210 #[v] w fun e w' => e = .returned (.string "Int8".toUTF8) ∧ w' = w := by
  go_enter Tryz.func210, Tryz.ntmps210
  go_wp2
  go_ret
  exact ⟨rfl, rfl⟩
set_option maxRecDepth 100000 in
set_option maxHeartbeats 400000 in
theorem reset_Int8 (p : Nat) (e : TypeId) (sz : Nat) (w : World) (h : Hold w p 134 e sz none 0 0 []) : Calls Tryz.prog 208 #[.pointer (some ⟨p, 0, none⟩)] w fun ex w' => ex = .returned (.tuple #[]) ∧ Hold w' p 134 e sz none 0 0 [] ∧ Upd [p] w w' := by
  have hc := h.cell
  have hf := h.free
  go_enter Tryz.func208, Tryz.ntmps208
  go_wp2
  go_end0
  exact ⟨rfl, Hold.stored h.blk Row.nil (by simp), (Upd.refl _ _).setCell _ (by simp)⟩
set_option maxRecDepth 100000 in
set_option maxHeartbeats 400000 in
theorem rows_Int16 (ao : Option Addr) (n c : Nat) (w : World) : Calls Tryz.prog 221 #[.slice ao n c] w fun e w' => e = .returned (.int .i64 n) ∧ w' = w := by
  go_enter Tryz.func221, Tryz.ntmps221
  go_wp2
  go_ret
  exact ⟨rfl, rfl⟩
set_option maxRecDepth 100000 in
set_option maxHeartbeats 400000 in
theorem type_Int16 (v : Value) (w : World) : Calls Tryz.prog 222 #[v] w fun e w' => e = .returned (.string "Int16".toUTF8) ∧ w' = w := by
  go_enter Tryz.func222, Tryz.ntmps222
  go_wp2
  go_ret
  exact ⟨rfl, rfl⟩
set_option maxRecDepth 100000 in
set_option maxHeartbeats 400000 in
theorem reset_Int16 (p : Nat) (e : TypeId) (sz : Nat) (w : World) (h : Hold w p 144 e sz none 0 0 []) : Calls Tryz.prog 219 #[.pointer (some ⟨p, 0, none⟩)] w fun ex w' => ex = .returned (.tuple #[]) ∧ Hold w' p 144 e sz none 0 0 [] ∧ Upd [p] w w' := by
  have hc := h.cell
  have hf := h.free
  go_enter Tryz.func219, Tryz.ntmps219
  go_wp2
  go_end0
  exact ⟨rfl, Hold.stored h.blk Row.nil (by simp), (Upd.refl _ _).setCell _ (by simp)⟩
set_option maxRecDepth 100000 in
set_option maxHeartbeats 400000 in
theorem rows_Int32 (ao : Option Addr) (n c : Nat) (w : World) : Calls Tryz.prog 234 #[.slice ao n c] w fun e w' => e = .returned (.int .i64 n) ∧ w' = w := by
  go_enter Tryz.func234, Tryz.ntmps234
  go_wp2
  go_ret
  exact ⟨rfl, rfl⟩
set_option maxRecDepth 100000 in
set_option maxHeartbeats 400000 in
theorem type_Int32 (v : Value) (w : World) : Calls Tryz.prog 235 #[v] w fun e w' => e = .returned (.string "Int32".toUTF8) ∧ w' = w := by
  go_enter Tryz.func235, Tryz.ntmps235
  go_wp2
  go_ret
  exact ⟨rfl, rfl⟩
set_option maxRecDepth 100000 in
set_option maxHeartbeats 400000 in
theorem reset_Int32 (p : Nat) (e : TypeId) (sz : Nat) (w : World) (h : Hold w p 154 e sz none 0 0 []) : Calls Tryz.prog 232 #[.pointer (some ⟨p, 0, none⟩)] w fun ex w' => ex = .returned (.tuple #[]) ∧ Hold w' p 154 e sz none 0 0 [] ∧ Upd [p] w w' := by
  have hc := h.cell
  have hf := h.free
  go_enter Tryz.func232, Tryz.ntmps232
  go_wp2
  go_end0
  exact ⟨rfl, Hold.stored h.blk Row.nil (by simp), (Upd.refl _ _).setCell _ (by simp)⟩
set_option maxRecDepth 100000 in
set_option maxHeartbeats 400000 in
theorem rows_Int64 (ao : Option Addr) (n c : Nat) (w : World) : Calls Tryz.prog 246 #[.slice ao n c] w fun e w' => e = .returned (.int .i64 n) ∧ w' = w := by
  go_enter Tryz.func246, Tryz.ntmps246
  go_wp2
  go_ret
  exact ⟨rfl, rfl⟩
set_option maxRecDepth 100000 in
set_option maxHeartbeats 400000 in
theorem type_Int64 (v : Value) (w : World) : Calls Tryz.prog 247 #[v] w fun e w' => e = .returned (.string "Int64".toUTF8) ∧ w' = w := by
  go_enter Tryz.func247, Tryz.ntmps247
  go_wp2
  go_ret
  exact ⟨rfl, rfl⟩
set_option maxRecDepth 100000 in
set_option maxHeartbeats 400000 in
theorem reset_Int64 (p : Nat) (e : TypeId) (sz : Nat) (w : World) (h : Hold w p 163 e sz none 0 0 []) : Calls Tryz.prog 244 #[.pointer (some ⟨p, 0, none⟩)] w fun ex w' => ex = .returned (.tuple #[]) ∧ Hold w' p 163 e sz none 0 0 [] ∧ Upd [p] w w' := by
  have hc := h.cell
  have hf := h.free
  go_enter Tryz.func244, Tryz.ntmps244
  go_wp2
  go_end0
  exact ⟨rfl, Hold.stored h.blk Row.nil (by simp), (Upd.refl _ _).setCell _ (by simp)⟩
set_option maxRecDepth 100000 in
set_option maxHeartbeats 400000 in
theorem rows_Int128 (ao : Option Addr) (n c : Nat) (w : World) : Calls Tryz.prog 259 #[.slice ao n c] w fun e w' => e = .returned (.int .i64 n) ∧ w' = w := by
  go_enter Tryz.func259, Tryz.ntmps259
  go_wp2
  go_ret
  exact ⟨rfl, rfl⟩
set_option maxRecDepth 100000 in
set_option maxHeartbeats 400000 in
theorem type_Int128 (v : Value) (w : World) : Calls Tryz.prog 260 #[v] w fun e w' => e = .returned (.string "Int128".toUTF8) ∧ w' = w := by
  go_enter Tryz.func260, Tryz.ntmps260
  go_wp2
  go_ret
  exact ⟨rfl, rfl⟩
set_option maxRecDepth 100000 in
set_option maxHeartbeats 400000 in
theorem reset_Int128 (p : Nat) (e : TypeId) (sz : Nat) (w : World) (h : Hold w p 172 e sz none 0 0 []) : Calls Tryz.prog 257 #[.pointer (some ⟨p, 0, none⟩)] w fun ex w' => ex = .returned (.tuple #[]) ∧ Hold w' p 172 e sz none 0 0 [] ∧ Upd [p] w w' := by
  have hc := h.cell
  have hf := h.free
  go_enter Tryz.func257, Tryz.ntmps257
  go_wp2
  go_end0
  exact ⟨rfl, Hold.stored h.blk Row.nil (by simp), (Upd.refl _ _).setCell _ (by simp)⟩
set_option maxRecDepth 100000 in
set_option maxHeartbeats 400000 in
theorem rows_Int256 (ao : Option Addr) (n c : Nat) (w : World) : Calls Tryz.prog 274 #[.slice ao n c] w fun e w' => e = .returned (.int .i64 n) ∧ w' = w := by
  go_enter Tryz.func274, Tryz.ntmps274
  go_wp2
  go_ret
  exact ⟨rfl, rfl⟩
set_option maxRecDepth 100000 in
set_option maxHeartbeats 400000 in
theorem type_Int256 (v : Value) (w : World) : Calls Tryz.prog 275 #[v] w fun e w' => e = .returned (.string "Int256".toUTF8) ∧ w' = w := by
  go_enter Tryz.func275, Tryz.ntmps275
  go_wp2
  go_ret
  exact ⟨rfl, rfl⟩
set_option maxRecDepth 100000 in
set_option maxHeartbeats 400000 in
theorem reset_Int256 (p : Nat) (e : TypeId) (sz : Nat) (w : World) (h : Hold w p 186 e sz none 0 0 []) : Calls Tryz.prog 272 #[.pointer (some ⟨p, 0, none⟩)] w fun ex w' => ex = .returned (.tuple #[]) ∧ Hold w' p 186 e sz none 0 0 [] ∧ Upd [p] w w' := by
  have hc := h.cell
  have hf := h.free
  go_enter Tryz.func272, Tryz.ntmps272
  go_wp2
  go_end0
  exact ⟨rfl, Hold.stored h.blk Row.nil (by simp), (Upd.refl _ _).setCell _ (by simp)⟩
set_option maxRecDepth 100000 in
set_option maxHeartbeats 400000 in
theorem rows_UInt8 (ao : Option Addr) (n c : Nat) (w : World) : Calls Tryz.prog 287 #[.slice ao n c] w fun e w' => e = .returned (.int .i64 n) ∧ w' = w := by
  go_enter Tryz.func287, Tryz.ntmps287
  go_wp2
  go_ret
  exact ⟨rfl, rfl⟩
set_option maxRecDepth 100000 in
set_option maxHeartbeats 400000 in
theorem type_UInt8 (v : Value) (w : World) : Calls Tryz.prog 288 #[v] w fun e w' => e = .returned (.string "UInt8".toUTF8) ∧ w' = w := by
  go_enter Tryz.func288, Tryz.ntmps288
  go_wp2
  go_ret
  exact ⟨rfl, rfl⟩
set_option maxRecDepth 100000 in
set_option maxHeartbeats 400000 in
theorem reset_UInt8 (p : Nat) (e : TypeId) (sz : Nat) (w : World) (h : Hold w p 196 e sz none 0 0 []) : Calls Tryz.prog 285 #[.pointer (some ⟨p, 0, none⟩)] w fun ex w' => ex = .returned (.tuple #[]) ∧ Hold w' p 196 e sz none 0 0 [] ∧ Upd [p] w w' := by
  have hc := h.cell
  have hf := h.free
  go_enter Tryz.func285, Tryz.ntmps285
  go_wp2
  go_end0
  exact ⟨rfl, Hold.stored h.blk Row.nil (by simp), (Upd.refl _ _).setCell _ (by simp)⟩
set_option maxRecDepth 100000 in
set_option maxHeartbeats 400000 in
theorem rows_UInt16 (ao : Option Addr) (n c : Nat) (w : World) : Calls Tryz.prog 298 #[.slice ao n c] w fun e w' => e = .returned (.int .i64 n) ∧ w' = w := by
  go_enter Tryz.func298, Tryz.ntmps298
  go_wp2
  go_ret
  exact ⟨rfl, rfl⟩
set_option maxRecDepth 100000 in
set_option maxHeartbeats 400000 in
theorem type_UInt16 (v : Value) (w : World) : Calls Tryz.prog 299 #[v] w fun e w' => e = .returned (.string "UInt16".toUTF8) ∧ w' = w := by
  go_enter Tryz.func299, Tryz.ntmps299
  go_wp2
  go_ret
  exact ⟨rfl, rfl⟩
set_option maxRecDepth 100000 in
set_option maxHeartbeats 400000 in
theorem reset_UInt16 (p : Nat) (e : TypeId) (sz : Nat) (w : World) (h : Hold w p 205 e sz none 0 0 []) : Calls Tryz.prog 296 #[.pointer (some ⟨p, 0, none⟩)] w fun ex w' => ex = .returned (.tuple #[]) ∧ Hold w' p 205 e sz none 0 0 [] ∧ Upd [p] w w' := by
  have hc := h.cell
  have hf := h.free
  go_enter Tryz.func296, Tryz.ntmps296
  go_wp2
  go_end0
  exact ⟨rfl, Hold.stored h.blk Row.nil (by simp), (Upd.refl _ _).setCell _ (by simp)⟩
set_option maxRecDepth 100000 in
set_option maxHeartbeats 400000 in
theorem rows_UInt32 (ao : Option Addr) (n c : Nat) (w : World) : Calls Tryz.prog 309 #[.slice ao n c] w fun e w' => e = .returned (.int .i64 n) ∧ w' = w := by
  go_enter Tryz.func309, Tryz.ntmps309
  go_wp2
  go_ret
  exact ⟨rfl, rfl⟩
set_option maxRecDepth 100000 in
set_option maxHeartbeats 400000 in
theorem type_UInt32 (v : Value) (w : World) : Calls Tryz.prog 310 #[v] w fun e w' => e = .returned (.string "UInt32".toUTF8) ∧ w' = w := by
  go_enter Tryz.func310, Tryz.ntmps310
  go_wp2
  go_ret
  exact ⟨rfl, rfl⟩
set_option maxRecDepth 100000 in
set_option maxHeartbeats 400000 in
theorem reset_UInt32 (p : Nat) (e : TypeId) (sz : Nat) (w : World) (h : Hold w p 214 e sz none 0 0 []) : Calls Tryz.prog 307 #[.pointer (some ⟨p, 0, none⟩)] w fun ex w' => ex = .returned (.tuple #[]) ∧ Hold w' p 214 e sz none 0 0 [] ∧ Upd [p] w w' := by
  have hc := h.cell
  have hf := h.free
  go_enter Tryz.func307, Tryz.ntmps307
  go_wp2
  go_end0
  exact ⟨rfl, Hold.stored h.blk Row.nil (by simp), (Upd.refl _ _).setCell _ (by simp)⟩
set_option maxRecDepth 100000 in
set_option maxHeartbeats 400000 in
theorem rows_UInt64 (ao : Option Addr) (n c : Nat) (w : World) : Calls Tryz.prog 320 #[.slice ao n c] w fun e w' => e = .returned (.int .i64 n) ∧ w' = w := by
  go_enter Tryz.func320, Tryz.ntmps320
  go_wp2
  go_ret
  exact ⟨rfl, rfl⟩
set_option maxRecDepth 100000 in
set_option maxHeartbeats 400000 in
theorem type_UInt64 (v : Value) (w : World) : Calls Tryz.prog 321 #[v] w fun e w' => e = .returned (.string "UInt64".toUTF8) ∧ w' = w := by
  go_enter Tryz.func321, Tryz.ntmps321
  go_wp2
  go_ret
  exact ⟨rfl, rfl⟩
set_option maxRecDepth 100000 in
set_option maxHeartbeats 400000 in
theorem reset_UInt64 (p : Nat) (e : TypeId) (sz : Nat) (w : World) (h : Hold w p 223 e sz none 0 0 []) : Calls Tryz.prog 318 #[.pointer (some ⟨p, 0, none⟩)] w fun ex w' => ex = .returned (.tuple #[]) ∧ Hold w' p 223 e sz none 0 0 [] ∧ Upd [p] w w' := by
  have hc := h.cell
  have hf := h.free
  go_enter Tryz.func318, Tryz.ntmps318
  go_wp2
  go_end0
  exact ⟨rfl, Hold.stored h.blk Row.nil (by simp), (Upd.refl _ _).setCell _ (by simp)⟩
set_option maxRecDepth 100000 in
set_option maxHeartbeats 400000 in
theorem rows_UInt128 (ao : Option Addr) (n c : Nat) (w : World) : Calls Tryz.prog 334 #[.slice ao n c] w fun e w' => e = .returned (.int .i64 n) ∧ w' = w := by
  go_enter Tryz.func334, Tryz.ntmps334
  go_wp2
  go_ret
  exact ⟨rfl, rfl⟩
set_option maxRecDepth 100000 in
set_option maxHeartbeats 400000 in
theorem type_UInt128 (v : Value) (w : World) : Calls Tryz.prog 335 #[v] w fun e w' => e = .returned (.string "UInt128".toUTF8) ∧ w' = w := by
  go_enter Tryz.func335, Tryz.ntmps335
  go_wp2
  go_ret
  exact ⟨rfl, rfl⟩
set_option maxRecDepth 100000 in
set_option maxHeartbeats 400000 in
theorem reset_UInt128 (p : Nat) (e : TypeId) (sz : Nat) (w : World) (h : Hold w p 253 e sz none 0 0 []) : Calls Tryz.prog 332 #[.pointer (some ⟨p, 0, none⟩)] w fun ex w' => ex = .returned (.tuple #[]) ∧ Hold w' p 253 e sz none 0 0 [] ∧ Upd [p] w w' := by
  have hc := h.cell
  have hf := h.free
  go_enter Tryz.func332, Tryz.ntmps332
  go_wp2
  go_end0
  exact ⟨rfl, Hold.stored h.blk Row.nil (by simp), (Upd.refl _ _).setCell _ (by simp)⟩
set_option maxRecDepth 100000 in
set_option maxHeartbeats 400000 in
theorem rows_UInt256 (ao : Option Addr) (n c : Nat) (w : World) : Calls Tryz.prog 345 #[.slice ao n c] w fun e w' => e = .returned (.int .i64 n) ∧ w' = w := by
  go_enter Tryz.func345, Tryz.ntmps345
  go_wp2
  go_ret
  exact ⟨rfl, rfl⟩
set_option maxRecDepth 100000 in
set_option maxHeartbeats 400000 in
theorem type_UInt256 (v : Value) (w : World) : Calls Tryz.prog 346 #[v] w fun e w' => e = .returned (.string "UInt256".toUTF8) ∧ w' = w := by
  go_enter Tryz.func346, Tryz.ntmps346
  go_wp2
  go_ret
  exact ⟨rfl, rfl⟩
set_option maxRecDepth 100000 in
set_option maxHeartbeats 400000 in
theorem reset_UInt256 (p : Nat) (e : TypeId) (sz : Nat) (w : World) (h : Hold w p 261 e sz none 0 0 []) : Calls Tryz.prog 343 #[.pointer (some ⟨p, 0, none⟩)] w fun ex w' => ex = .returned (.tuple #[]) ∧ Hold w' p 261 e sz none 0 0 [] ∧ Upd [p] w w' := by
  have hc := h.cell
  have hf := h.free
  go_enter Tryz.func343, Tryz.ntmps343
  go_wp2
  go_end0
  exact ⟨rfl, Hold.stored h.blk Row.nil (by simp), (Upd.refl _ _).setCell _ (by simp)⟩
set_option maxRecDepth 100000 in
set_option maxHeartbeats 400000 in
theorem rows_Float32 (ao : Option Addr) (n c : Nat) (w : World) : Calls Tryz.prog 356 #[.slice ao n c] w fun e w' => e = .returned (.int .i64 n) ∧ w' = w := by
  go_enter Tryz.func356, Tryz.ntmps356
  go_wp2
  go_ret
  exact ⟨rfl, rfl⟩
set_option maxRecDepth 100000 in
set_option maxHeartbeats 400000 in
theorem type_Float32 (v : Value) (w : World) : Calls Tryz.prog 357 #[v] w fun e w' => e = .returned (.string "Float32".toUTF8) ∧ w' = w := by
  go_enter Tryz.func357, Tryz.ntmps357
  go_wp2
  go_ret
  exact ⟨rfl, rfl⟩
set_option maxRecDepth 100000 in
set_option maxHeartbeats 400000 in
theorem reset_Float32 (p : Nat) (e : TypeId) (sz : Nat) (w : World) (h : Hold w p 271 e sz none 0 0 []) : Calls Tryz.prog 354 #[.pointer (some ⟨p, 0, none⟩)] w fun ex w' => ex = .returned (.tuple #[]) ∧ Hold w' p 271 e sz none 0 0 [] ∧ Upd [p] w w' := by
  have hc := h.cell
  have hf := h.free
  go_enter Tryz.func354, Tryz.ntmps354
  go_wp2
  go_end0
  exact ⟨rfl, Hold.stored h.blk Row.nil (by simp), (Upd.refl _ _).setCell _ (by simp)⟩
set_option maxRecDepth 100000 in
set_option maxHeartbeats 400000 in
theorem rows_Float64 (ao : Option Addr) (n c : Nat) (w : World) : Calls Tryz.prog 367 #[.slice ao n c] w fun e w' => e = .returned (.int .i64 n) ∧ w' = w := by
  go_enter Tryz.func367, Tryz.ntmps367
  go_wp2
  go_ret
  exact ⟨rfl, rfl⟩
set_option maxRecDepth 100000 in
set_option maxHeartbeats 400000 in
theorem type_Float64 (v : Value) (w : World) : Calls Tryz.prog 368 #[v] w fun e w' => e = .returned (.string "Float64".toUTF8) ∧ w' = w := by
  go_enter Tryz.func368, Tryz.ntmps368
  go_wp2
  go_ret
  exact ⟨rfl, rfl⟩
set_option maxRecDepth 100000 in
set_option maxHeartbeats 400000 in
theorem reset_Float64 (p : Nat) (e : TypeId) (sz : Nat) (w : World) (h : Hold w p 280 e sz none 0 0 []) : Calls Tryz.prog 365 #[.pointer (some ⟨p, 0, none⟩)] w fun ex w' => ex = .returned (.tuple #[]) ∧ Hold w' p 280 e sz none 0 0 [] ∧ Upd [p] w w' := by
  have hc := h.cell
  have hf := h.free
  go_enter Tryz.func365, Tryz.ntmps365
  go_wp2
  go_end0
  exact ⟨rfl, Hold.stored h.blk Row.nil (by simp), (Upd.refl _ _).setCell _ (by simp)⟩
set_option maxRecDepth 100000 in
set_option maxHeartbeats 400000 in
theorem rows_BFloat16 (ao : Option Addr) (n c : Nat) (w : World) : Calls Tryz.prog 379 #[.slice ao n c] w fun e w' => e = .returned (.int .i64 n) ∧ w' = w := by
  go_enter Tryz.func379, Tryz.ntmps379
  go_wp2
  go_ret
  exact ⟨rfl, rfl⟩
set_option maxRecDepth 100000 in
set_option maxHeartbeats 400000 in
theorem type_BFloat16 (v : Value) (w : World) : Calls Tryz.prog 380 #[v] w fun e w' => e = .returned (.string "BFloat16".toUTF8) ∧ w' = w := by
  go_enter Tryz.func380, Tryz.ntmps380
  go_wp2
  go_ret
  exact ⟨rfl, rfl⟩
set_option maxRecDepth 100000 in
set_option maxHeartbeats 400000 in
theorem reset_BFloat16 (p : Nat) (e : TypeId) (sz : Nat) (w : World) (h : Hold w p 291 e sz none 0 0 []) : Calls Tryz.prog 377 #[.pointer (some ⟨p, 0, none⟩)] w fun ex w' => ex = .returned (.tuple #[]) ∧ Hold w' p 291 e sz none 0 0 [] ∧ Upd [p] w w' := by
  have hc := h.cell
  have hf := h.free
  go_enter Tryz.func377, Tryz.ntmps377
  go_wp2
  go_end0
  exact ⟨rfl, Hold.stored h.blk Row.nil (by simp), (Upd.refl _ _).setCell _ (by simp)⟩
set_option maxRecDepth 100000 in
set_option maxHeartbeats 400000 in
theorem rows_Bool (ao : Option Addr) (n c : Nat) (w : World) : Calls Tryz.prog 389 #[.slice ao n c] w fun e w' => e = .returned (.int .i64 n) ∧ w' = w := by
  go_enter Tryz.func389, Tryz.ntmps389
  go_wp2
  go_ret
  exact ⟨rfl, rfl⟩
set_option maxRecDepth 100000 in
set_option maxHeartbeats 400000 in
theorem type_Bool (v : Value) (w : World) : Calls Tryz.prog 390 #[v] w fun e w' => e = .returned (.string "Bool".toUTF8) ∧ w' = w := by
  go_enter Tryz.func390, Tryz.ntmps390
  go_wp2
  go_ret
  exact ⟨rfl, rfl⟩
set_option maxRecDepth 100000 in
set_option maxHeartbeats 400000 in
theorem reset_Bool (p : Nat) (e : TypeId) (sz : Nat) (w : World) (h : Hold w p 294 e sz none 0 0 []) : Calls Tryz.prog 387 #[.pointer (some ⟨p, 0, none⟩)] w fun ex w' => ex = .returned (.tuple #[]) ∧ Hold w' p 294 e sz none 0 0 [] ∧ Upd [p] w w' := by
  have hc := h.cell
  have hf := h.free
  go_enter Tryz.func387, Tryz.ntmps387
  go_wp2
  go_end0
  exact ⟨rfl, Hold.stored h.blk Row.nil (by simp), (Upd.refl _ _).setCell _ (by simp)⟩
set_option maxRecDepth 100000 in
set_option maxHeartbeats 400000 in
theorem rows_IPv4 (ao : Option Addr) (n c : Nat) (w : World) : Calls Tryz.prog 401 #[.slice ao n c] w fun e w' => e = .returned (.int .i64 n) ∧ w' = w := by
  go_enter Tryz.func401, Tryz.ntmps401
  go_wp2
  go_ret
  exact ⟨rfl, rfl⟩
set_option maxRecDepth 100000 in
set_option maxHeartbeats 400000 in
theorem type_IPv4 (v : Value) (w : World) : Calls Tryz.prog 402 #[v] w fun e w' => e = .returned (.string "IPv4".toUTF8) ∧ w' = w := by
  go_enter Tryz.func402, Tryz.ntmps402
  go_wp2
  go_ret
  exact ⟨rfl, rfl⟩
set_option maxRecDepth 100000 in
set_option maxHeartbeats 400000 in
theorem reset_IPv4 (p : Nat) (e : TypeId) (sz : Nat) (w : World) (h : Hold w p 302 e sz none 0 0 []) : Calls Tryz.prog 399 #[.pointer (some ⟨p, 0, none⟩)] w fun ex w' => ex = .returned (.tuple #[]) ∧ Hold w' p 302 e sz none 0 0 [] ∧ Upd [p] w w' := by
  have hc := h.cell
  have hf := h.free
  go_enter Tryz.func399, Tryz.ntmps399
  go_wp2
  go_end0
  exact ⟨rfl, Hold.stored h.blk Row.nil (by simp), (Upd.refl _ _).setCell _ (by simp)⟩
set_option maxRecDepth 100000 in
set_option maxHeartbeats 400000 in
theorem rows_IPv6 (ao : Option Addr) (n c : Nat) (w : World) : Calls Tryz.prog 412 #[.slice ao n c] w fun e w' => e = .returned (.int .i64 n) ∧ w' = w := by
  go_enter Tryz.func412, Tryz.ntmps412
  go_wp2
  go_ret
  exact ⟨rfl, rfl⟩
set_option maxRecDepth 100000 in
set_option maxHeartbeats 400000 in
theorem type_IPv6 (v : Value) (w : World) : Calls Tryz.prog 413 #[v] w fun e w' => e = .returned (.string "IPv6".toUTF8) ∧ w' = w := by
  go_enter Tryz.func413, Tryz.ntmps413
  go_wp2
  go_ret
  exact ⟨rfl, rfl⟩
set_option maxRecDepth 100000 in
set_option maxHeartbeats 400000 in
theorem reset_IPv6 (p : Nat) (e : TypeId) (sz : Nat) (w : World) (h : Hold w p 312 e sz none 0 0 []) : Calls Tryz.prog 410 #[.pointer (some ⟨p, 0, none⟩)] w fun ex w' => ex = .returned (.tuple #[]) ∧ Hold w' p 312 e sz none 0 0 [] ∧ Upd [p] w w' := by
  have hc := h.cell
  have hf := h.free
  go_enter Tryz.func410, Tryz.ntmps410
  go_wp2
  go_end0
  exact ⟨rfl, Hold.stored h.blk Row.nil (by simp), (Upd.refl _ _).setCell _ (by simp)⟩
set_option maxRecDepth 100000 in
set_option maxHeartbeats 400000 in
theorem row_Int8 (g n c i : Nat) (v : Value) (w : World) (h : w.cell? ⟨g, i, none⟩ = some v) (hi : i < n) : Calls Tryz.prog 464 #[.slice (some ⟨g, 0, none⟩) n c, .int .i64 i] w fun e w' => e = .returned v ∧ Upd [] w w' := by
  have hk0 : ((i : Int) < n) := by omega
  go_enter Tryz.func464, Tryz.ntmps464
  go_wp2
  go_ret
  exact ⟨rfl, Upd.refl _ _⟩
set_option maxRecDepth 100000 in
set_option maxHeartbeats 400000 in
theorem row_Int16 (g n c i : Nat) (v : Value) (w : World) (h : w.cell? ⟨g, i, none⟩ = some v) (hi : i < n) : Calls Tryz.prog 220 #[.slice (some ⟨g, 0, none⟩) n c, .int .i64 i] w fun e w' => e = .returned v ∧ Upd [] w w' := by
  have hk0 : ((i : Int) < n) := by omega
  go_enter Tryz.func220, Tryz.ntmps220
  go_wp2
  go_ret
  exact ⟨rfl, Upd.refl _ _⟩
set_option maxRecDepth 100000 in
set_option maxHeartbeats 400000 in
theorem row_Int32 (g n c i : Nat) (v : Value) (w : World) (h : w.cell? ⟨g, i, none⟩ = some v) (hi : i < n) : Calls Tryz.prog 233 #[.slice (some ⟨g, 0, none⟩) n c, .int .i64 i] w fun e w' => e = .returned v ∧ Upd [] w w' := by
  have hk0 : ((i : Int) < n) := by omega
  go_enter Tryz.func233, Tryz.ntmps233
  go_wp2
  go_ret
  exact ⟨rfl, Upd.refl _ _⟩
set_option maxRecDepth 100000 in
set_option maxHeartbeats 400000 in
theorem row_Int64 (g n c i : Nat) (v : Value) (w : World) (h : w.cell? ⟨g, i, none⟩ = some v) (hi : i < n) : Calls Tryz.prog 245 #[.slice (some ⟨g, 0, none⟩) n c, .int .i64 i] w fun e w' => e = .returned v ∧ Upd [] w w' := by
  have hk0 : ((i : Int) < n) := by omega
  go_enter Tryz.func245, Tryz.ntmps245
  go_wp2
  go_ret
  exact ⟨rfl, Upd.refl _ _⟩
set_option maxRecDepth 100000 in
set_option maxHeartbeats 400000 in
theorem row_UInt8 (g n c i : Nat) (v : Value) (w : World) (h : w.cell? ⟨g, i, none⟩ = some v) (hi : i < n) : Calls Tryz.prog 286 #[.slice (some ⟨g, 0, none⟩) n c, .int .i64 i] w fun e w' => e = .returned v ∧ Upd [] w w' := by
  have hk0 : ((i : Int) < n) := by omega
  go_enter Tryz.func286, Tryz.ntmps286
  go_wp2
  go_ret
  exact ⟨rfl, Upd.refl _ _⟩
set_option maxRecDepth 100000 in
set_option maxHeartbeats 400000 in
theorem row_UInt16 (g n c i : Nat) (v : Value) (w : World) (h : w.cell? ⟨g, i, none⟩ = some v) (hi : i < n) : Calls Tryz.prog 297 #[.slice (some ⟨g, 0, none⟩) n c, .int .i64 i] w fun e w' => e = .returned v ∧ Upd [] w w' := by
  have hk0 : ((i : Int) < n) := by omega
  go_enter Tryz.func297, Tryz.ntmps297
  go_wp2
  go_ret
  exact ⟨rfl, Upd.refl _ _⟩
set_option maxRecDepth 100000 in
set_option maxHeartbeats 400000 in
theorem row_UInt32 (g n c i : Nat) (v : Value) (w : World) (h : w.cell? ⟨g, i, none⟩ = some v) (hi : i < n) : Calls Tryz.prog 308 #[.slice (some ⟨g, 0, none⟩) n c, .int .i64 i] w fun e w' => e = .returned v ∧ Upd [] w w' := by
  have hk0 : ((i : Int) < n) := by omega
  go_enter Tryz.func308, Tryz.ntmps308
  go_wp2
  go_ret
  exact ⟨rfl, Upd.refl _ _⟩
set_option maxRecDepth 100000 in
set_option maxHeartbeats 400000 in
theorem row_UInt64 (g n c i : Nat) (v : Value) (w : World) (h : w.cell? ⟨g, i, none⟩ = some v) (hi : i < n) : Calls Tryz.prog 319 #[.slice (some ⟨g, 0, none⟩) n c, .int .i64 i] w fun e w' => e = .returned v ∧ Upd [] w w' := by
  have hk0 : ((i : Int) < n) := by omega
  go_enter Tryz.func319, Tryz.ntmps319
  go_wp2
  go_ret
  exact ⟨rfl, Upd.refl _ _⟩
set_option maxRecDepth 100000 in
set_option maxHeartbeats 400000 in
theorem row_Float32 (g n c i : Nat) (v : Value) (w : World) (h : w.cell? ⟨g, i, none⟩ = some v) (hi : i < n) : Calls Tryz.prog 355 #[.slice (some ⟨g, 0, none⟩) n c, .int .i64 i] w fun e w' => e = .returned v ∧ Upd [] w w' := by
  have hk0 : ((i : Int) < n) := by omega
  go_enter Tryz.func355, Tryz.ntmps355
  go_wp2
  go_ret
  exact ⟨rfl, Upd.refl _ _⟩
set_option maxRecDepth 100000 in
set_option maxHeartbeats 400000 in
theorem row_Float64 (g n c i : Nat) (v : Value) (w : World) (h : w.cell? ⟨g, i, none⟩ = some v) (hi : i < n) : Calls Tryz.prog 366 #[.slice (some ⟨g, 0, none⟩) n c, .int .i64 i] w fun e w' => e = .returned v ∧ Upd [] w w' := by
  have hk0 : ((i : Int) < n) := by omega
  go_enter Tryz.func366, Tryz.ntmps366
  go_wp2
  go_ret
  exact ⟨rfl, Upd.refl _ _⟩
set_option maxRecDepth 100000 in
set_option maxHeartbeats 400000 in
theorem row_Bool (g n c i : Nat) (v : Value) (w : World) (h : w.cell? ⟨g, i, none⟩ = some v) (hi : i < n) : Calls Tryz.prog 388 #[.slice (some ⟨g, 0, none⟩) n c, .int .i64 i] w fun e w' => e = .returned v ∧ Upd [] w w' := by
  have hk0 : ((i : Int) < n) := by omega
  go_enter Tryz.func388, Tryz.ntmps388
  go_wp2
  go_ret
  exact ⟨rfl, Upd.refl _ _⟩
set_option maxRecDepth 100000 in
set_option maxHeartbeats 400000 in
theorem row_IPv4 (g n c i : Nat) (v : Value) (w : World) (h : w.cell? ⟨g, i, none⟩ = some v) (hi : i < n) : Calls Tryz.prog 400 #[.slice (some ⟨g, 0, none⟩) n c, .int .i64 i] w fun e w' => e = .returned v ∧ Upd [] w w' := by
  have hk0 : ((i : Int) < n) := by omega
  go_enter Tryz.func400, Tryz.ntmps400
  go_wp2
  go_ret
  exact ⟨rfl, Upd.refl _ _⟩
set_option maxRecDepth 100000 in
set_option maxHeartbeats 400000 in
theorem row_Int128 (g n c i : Nat) (cs : List Value) (w : World) (h : w.rangeAt g (i * 2) cs) (hl : cs.length = 2) (h1 : ∀ u ∈ cs, u.oneCell' = true) (hg : g < w.heap.size) (hi : i < n) : Calls Tryz.prog 258 #[.slice (some ⟨g, 0, none⟩) n c, .int .i64 i] w fun e w' => e = .returned (.agg cs.toArray) ∧ Upd [] w w' := by
  have hk0 : ((i : Int) < n) := by omega
  have hs : (Tryz.prog.info? 174).map (·.size) = some cs.length := by rw [hl]; kernel_rfl
  go_enter Tryz.func258, Tryz.ntmps258
  have hk1 := heap_alloc_new w
  have hu1 := fun o => (Upd.refl [] w).alloc o
  go_wp2_with (first
    | ((with_reducible show wpList _ _ _ _ _ _); with_reducible refine wpList_load_mid rfl 174 (.tmp 7) rfl g (i * 2) rfl cs _ ((hu1 _).range h hg (by simp)) Tryz.underlying174 rfl hs ?_)
    | ((with_reducible show wpList _ _ _ _ _ _); refine wpList_store_blk rfl 174 (.tmp 4) (.tmp 8) rfl (b := w.heap.size) rfl (hk1 _) (cs := cs) rfl (by rw [hl]; rfl) hs h1 ?_; intro w4 hb4 hu4; simp only [Act.put]))
  refine bodyPost_ret (results_cell1 Tryz.results258 (b := w.heap.size) rfl (run_loadVar_mid _ w.heap.size 0 174 cs _ (rangeAt_blk hb4) Tryz.underlying174 rfl hs)) rfl ⟨rfl, ?_⟩
  exact (hu1 _).trans hu4 (fun y hy => by simp at hy; exact .inr (by omega))
set_option maxRecDepth 100000 in
set_option maxHeartbeats 400000 in
theorem row_UInt128 (g n c i : Nat) (cs : List Value) (w : World) (h : w.rangeAt g (i * 2) cs) (hl : cs.length = 2) (h1 : ∀ u ∈ cs, u.oneCell' = true) (hg : g < w.heap.size) (hi : i < n) : Calls Tryz.prog 333 #[.slice (some ⟨g, 0, none⟩) n c, .int .i64 i] w fun e w' => e = .returned (.agg cs.toArray) ∧ Upd [] w w' := by
  have hk0 : ((i : Int) < n) := by omega
  have hs : (Tryz.prog.info? 175).map (·.size) = some cs.length := by rw [hl]; kernel_rfl
  go_enter Tryz.func333, Tryz.ntmps333
  have hk1 := heap_alloc_new w
  have hu1 := fun o => (Upd.refl [] w).alloc o
  go_wp2_with (first
    | ((with_reducible show wpList _ _ _ _ _ _); with_reducible refine wpList_load_mid rfl 175 (.tmp 7) rfl g (i * 2) rfl cs _ ((hu1 _).range h hg (by simp)) Tryz.underlying175 rfl hs ?_)
    | ((with_reducible show wpList _ _ _ _ _ _); refine wpList_store_blk rfl 175 (.tmp 4) (.tmp 8) rfl (b := w.heap.size) rfl (hk1 _) (cs := cs) rfl (by rw [hl]; rfl) hs h1 ?_; intro w4 hb4 hu4; simp only [Act.put]))
  refine bodyPost_ret (results_cell1 Tryz.results333 (b := w.heap.size) rfl (run_loadVar_mid _ w.heap.size 0 175 cs _ (rangeAt_blk hb4) Tryz.underlying175 rfl hs)) rfl ⟨rfl, ?_⟩
  exact (hu1 _).trans hu4 (fun y hy => by simp at hy; exact .inr (by omega))
set_option maxRecDepth 100000 in
set_option maxHeartbeats 400000 in
theorem row_Int256 (g n c i : Nat) (cs : List Value) (w : World) (h : w.rangeAt g (i * 4) cs) (hl : cs.length = 4) (h1 : ∀ u ∈ cs, u.oneCell' = true) (hg : g < w.heap.size) (hi : i < n) : Calls Tryz.prog 273 #[.slice (some ⟨g, 0, none⟩) n c, .int .i64 i] w fun e w' => e = .returned (.agg cs.toArray) ∧ Upd [] w w' := by
  have hk0 : ((i : Int) < n) := by omega
  have hs : (Tryz.prog.info? 188).map (·.size) = some cs.length := by rw [hl]; kernel_rfl
  go_enter Tryz.func273, Tryz.ntmps273
  have hk1 := heap_alloc_new w
  have hu1 := fun o => (Upd.refl [] w).alloc o
  go_wp2_with (first
    | ((with_reducible show wpList _ _ _ _ _ _); with_reducible refine wpList_load_mid rfl 188 (.tmp 7) rfl g (i * 4) rfl cs _ ((hu1 _).range h hg (by simp)) Tryz.underlying188 rfl hs ?_)
    | ((with_reducible show wpList _ _ _ _ _ _); refine wpList_store_blk rfl 188 (.tmp 4) (.tmp 8) rfl (b := w.heap.size) rfl (hk1 _) (cs := cs) rfl (by rw [hl]; rfl) hs h1 ?_; intro w4 hb4 hu4; simp only [Act.put]))
  refine bodyPost_ret (results_cell1 Tryz.results273 (b := w.heap.size) rfl (run_loadVar_mid _ w.heap.size 0 188 cs _ (rangeAt_blk hb4) Tryz.underlying188 rfl hs)) rfl ⟨rfl, ?_⟩
  exact (hu1 _).trans hu4 (fun y hy => by simp at hy; exact .inr (by omega))
set_option maxRecDepth 100000 in
set_option maxHeartbeats 400000 in
theorem row_UInt256 (g n c i : Nat) (cs : List Value) (w : World) (h : w.rangeAt g (i * 4) cs) (hl : cs.length = 4) (h1 : ∀ u ∈ cs, u.oneCell' = true) (hg : g < w.heap.size) (hi : i < n) : Calls Tryz.prog 344 #[.slice (some ⟨g, 0, none⟩) n c, .int .i64 i] w fun e w' => e = .returned (.agg cs.toArray) ∧ Upd [] w w' := by
  have hk0 : ((i : Int) < n) := by omega
  have hs : (Tryz.prog.info? 262).map (·.size) = some cs.length := by rw [hl]; kernel_rfl
  go_enter Tryz.func344, Tryz.ntmps344
  have hk1 := heap_alloc_new w
  have hu1 := fun o => (Upd.refl [] w).alloc o
  go_wp2_with (first
    | ((with_reducible show wpList _ _ _ _ _ _); with_reducible refine wpList_load_mid rfl 262 (.tmp 7) rfl g (i * 4) rfl cs _ ((hu1 _).range h hg (by simp)) Tryz.underlying262 rfl hs ?_)
    | ((with_reducible show wpList _ _ _ _ _ _); refine wpList_store_blk rfl 262 (.tmp 4) (.tmp 8) rfl (b := w.heap.size) rfl (hk1 _) (cs := cs) rfl (by rw [hl]; rfl) hs h1 ?_; intro w4 hb4 hu4; simp only [Act.put]))
  refine bodyPost_ret (results_cell1 Tryz.results344 (b := w.heap.size) rfl (run_loadVar_mid _ w.heap.size 0 262 cs _ (rangeAt_blk hb4) Tryz.underlying262 rfl hs)) rfl ⟨rfl, ?_⟩
  exact (hu1 _).trans hu4 (fun y hy => by simp at hy; exact .inr (by omega))
set_option maxRecDepth 100000 in
set_option maxHeartbeats 400000 in
theorem row_IPv6 (g n c i : Nat) (cs : List Value) (w : World) (h : w.rangeAt g (i * 16) cs) (hl : cs.length = 16) (h1 : ∀ u ∈ cs, u.oneCell' = true) (hg : g < w.heap.size) (hi : i < n) : Calls Tryz.prog 411 #[.slice (some ⟨g, 0, none⟩) n c, .int .i64 i] w fun e w' => e = .returned (.agg cs.toArray) ∧ Upd [] w w' := by
  have hk0 : ((i : Int) < n) := by omega
  have hs : (Tryz.prog.info? 314).map (·.size) = some cs.length := by rw [hl]; kernel_rfl
  go_enter Tryz.func411, Tryz.ntmps411
  have hk1 := heap_alloc_new w
  have hu1 := fun o => (Upd.refl [] w).alloc o
  go_wp2_with (first
    | ((with_reducible show wpList _ _ _ _ _ _); with_reducible refine wpList_load_mid rfl 314 (.tmp 7) rfl g (i * 16) rfl cs _ ((hu1 _).range h hg (by simp)) Tryz.underlying314 rfl hs ?_)
    | ((with_reducible show wpList _ _ _ _ _ _); refine wpList_store_blk rfl 314 (.tmp 4) (.tmp 8) rfl (b := w.heap.size) rfl (hk1 _) (cs := cs) rfl (by rw [hl]; rfl) hs h1 ?_; intro w4 hb4 hu4; simp only [Act.put]))
  refine bodyPost_ret (results_cell1 Tryz.results411 (b := w.heap.size) rfl (run_loadVar_mid _ w.heap.size 0 314 cs _ (rangeAt_blk hb4) Tryz.underlying314 rfl hs)) rfl ⟨rfl, ?_⟩
  exact (hu1 _).trans hu4 (fun y hy => by simp at hy; exact .inr (by omega))
set_option maxRecDepth 100000 in
set_option maxHeartbeats 400000 in
theorem row_BFloat16 (g n c i : Nat) (x : Int) (hx : 0 ≤ x ∧ x < 65536) (w : World) (h : w.cell? ⟨g, i, none⟩ = some (.int .u16 x)) (hi : i < n) : Calls Tryz.prog 378 #[.slice (some ⟨g, 0, none⟩) n c, .int .i64 i] w fun e w' => e = .returned (.float .f32 (x * 65536).toNat) ∧ Upd [] w w' := by
  have hk0 : ((i : Int) < n) := by omega
  go_enter Tryz.func378, Tryz.ntmps378
  go_wp2_with (go_at_call 383; (refine (ofBF x hx _).mono ?_); rintro e w2 ⟨rfl, rfl⟩)
  go_ret
  exact ⟨rfl, Upd.refl _ _⟩
set_option maxRecDepth 100000 in
set_option maxHeartbeats 1000000 in
theorem out_ipx (x0 x1 x2 x3 x4 x5 x6 x7 y0 y1 y2 y3 y4 y5 y6 y7 : Int) (hx : ∀ x ∈ [x0, x1, x2, x3, x4, x5, x6, x7, y0, y1, y2, y3, y4, y5, y6, y7], 0 ≤ x ∧ x < 256) (w : World) :
    Calls Tryz.prog 107 #[.agg (([x0, x1, x2, x3, x4, x5, x6, x7, y0, y1, y2, y3, y4, y5, y6, y7] : List Int).map (Value.int .u8)).toArray] w fun e w' => e = .returned (R4.agg ⟨psum [x0, x1, x2, x3, x4, x5, x6, x7] 8, psum [y0, y1, y2, y3, y4, y5, y6, y7] 8, 0, 0⟩) ∧ Upd [] w w' := by
  have hrow := row16 x0 x1 x2 x3 x4 x5 x6 x7 y0 y1 y2 y3 y4 y5 y6 y7 hx
  obtain ⟨A, hA⟩ : ∃ A, A = psum [x0, x1, x2, x3, x4, x5, x6, x7] 8 := ⟨_, rfl⟩
  obtain ⟨B, hB⟩ : ∃ B, B = psum [y0, y1, y2, y3, y4, y5, y6, y7] 8 := ⟨_, rfl⟩
  rw [← hA, ← hB] at hrow ⊢
  clear hA hB
  simp only [List.map_cons, List.map_nil, R4.agg] at hrow ⊢
  obtain ⟨k1, u1, s1⟩ := alloc_facts w (Obj.cells #[.int .u8 x0, .int .u8 x1, .int .u8 x2, .int .u8 x3, .int .u8 x4, .int .u8 x5, .int .u8 x6, .int .u8 x7, .int .u8 y0, .int .u8 y1, .int .u8 y2, .int .u8 y3, .int .u8 y4, .int .u8 y5, .int .u8 y6, .int .u8 y7] 314)
  obtain ⟨k2, u2, s2⟩ := alloc_facts (w.alloc (Obj.cells #[.int .u8 x0, .int .u8 x1, .int .u8 x2, .int .u8 x3, .int .u8 x4, .int .u8 x5, .int .u8 x6, .int .u8 x7, .int .u8 y0, .int .u8 y1, .int .u8 y2, .int .u8 y3, .int .u8 y4, .int .u8 y5, .int .u8 y6, .int .u8 y7] 314)) (Obj.cells #[.int .u64 0, .int .u64 0, .int .u64 0, .int .u64 0] 73)
  have r1 := rangeAt_blk (cs := [.int .u8 x0, .int .u8 x1, .int .u8 x2, .int .u8 x3, .int .u8 x4, .int .u8 x5, .int .u8 x6, .int .u8 x7, .int .u8 y0, .int .u8 y1, .int .u8 y2, .int .u8 y3, .int .u8 y4, .int .u8 y5, .int .u8 y6, .int .u8 y7]) (u2.at k1 (by simp))
  rw [s1] at k2
  go_enter Tryz.func107, Tryz.ntmps107
  go_wp2_with (first
    | ((with_reducible show wpList _ _ _ _ _ _); with_reducible refine wpList_load_mid rfl 314 (.tmp 1) rfl w.heap.size 0 rfl [.int .u8 x0, .int .u8 x1, .int .u8 x2, .int .u8 x3, .int .u8 x4, .int .u8 x5, .int .u8 x6, .int .u8 x7, .int .u8 y0, .int .u8 y1, .int .u8 y2, .int .u8 y3, .int .u8 y4, .int .u8 y5, .int .u8 y6, .int .u8 y7] _ r1 Tryz.underlying314 rfl (by kernel_rfl) ?_)
    | (go_at_call 108; (refine (hrow _).mono ?_); rintro e w2 ⟨rfl, hu2⟩; have k3 := hu2.at k2 (by simp))
    | ((with_reducible show wpList _ _ _ _ _ _); refine wpList_store_blk rfl 73 (.tmp 2) (.tmp 4) rfl (b := w.heap.size + 1) rfl k3 (cs := [.int .u64 A, .int .u64 B, .int .u64 0, .int .u64 0]) rfl rfl (by kernel_rfl) (by simp [Value.oneCell']) ?_; intro w4 hb4 hu4; simp only [Act.put]))
  refine bodyPost_ret (results_cell1 Tryz.results107 (b := w.heap.size + 1) rfl (run_loadVar_mid _ (w.heap.size + 1) 0 73 [.int .u64 A, .int .u64 B, .int .u64 0, .int .u64 0] _ (rangeAt_blk hb4) Tryz.underlying73 rfl (by kernel_rfl))) rfl ⟨rfl, ?_⟩
  exact ((u1.trans u2 (fun _ h => .inl h)).trans hu2 (fun _ h => .inl h)).trans hu4 (fun y hy => by simp at hy; exact .inr (by omega))
theorem psum8 (a : Int) (h : 0 ≤ a ∧ a < 18446744073709551616) : psum [byteAt a 0, byteAt a 1, byteAt a 2, byteAt a 3, byteAt a 4, byteAt a 5, byteAt a 6, byteAt a 7] 8 = a := by
  simp only [psum, byteAt]
  omega
theorem lowV16 (a b : Int) : lowV a b 16 = (([byteAt a 0, byteAt a 1, byteAt a 2, byteAt a 3, byteAt a 4, byteAt a 5, byteAt a 6, byteAt a 7] ++ [byteAt b 0, byteAt b 1, byteAt b 2, byteAt b 3, byteAt b 4, byteAt b 5, byteAt b 6, byteAt b 7] : List Int)).map (Value.int .u8) := rfl
theorem out_ip (a b : Int) (ha : 0 ≤ a ∧ a < 18446744073709551616) (hb : 0 ≤ b ∧ b < 18446744073709551616) (w : World) :
    Calls Tryz.prog 107 #[.agg (lowV a b 16).toArray] w fun e w' => e = .returned (R4.agg ⟨a, b, 0, 0⟩) ∧ Upd [] w w' := by
  have h := out_ipx (byteAt a 0) (byteAt a 1) (byteAt a 2) (byteAt a 3) (byteAt a 4) (byteAt a 5) (byteAt a 6) (byteAt a 7) (byteAt b 0) (byteAt b 1) (byteAt b 2) (byteAt b 3) (byteAt b 4) (byteAt b 5) (byteAt b 6) (byteAt b 7) (by
    intro x hx
    simp only [List.mem_cons, List.not_mem_nil, or_false] at hx
    rcases hx with rfl | rfl | rfl | rfl | rfl | rfl | rfl | rfl | rfl | rfl | rfl | rfl | rfl | rfl | rfl | rfl <;> exact byteAt_range _ _) w
  rw [psum8 a ha, psum8 b hb] at h
  exact h
end Go.Proofs.YtgbpabpeddajpaaGreatDoor
