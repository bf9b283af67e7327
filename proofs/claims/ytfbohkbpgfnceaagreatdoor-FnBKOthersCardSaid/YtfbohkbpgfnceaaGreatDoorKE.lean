/- Row, Rows, Type, Reset of each column; an address read back. -/
import Derived.Test.YtfbohkbpgfnceaaGreatDoorKC
import Derived.Test.YtfbohkbpgfnceaaGreatDoorKW
namespace Go.Proofs.YtfbohkbpgfnceaaGreatDoor
set_option linter.unusedVariables false
set_option linter.unusedSimpArgs false
open Go Go.RowKit
set_option maxRecDepth 100000 in
set_option maxHeartbeats 400000 in
theorem rows_Int8 (ao : Option Addr) (n c : Nat) (w : World) : Calls Tryz.prog 202 #[.slice ao n c] w fun e w' => e = .returned (.int .i64 n) ∧ w' = w := by
  go_enter Tryz.func202, Tryz.ntmps202
  go_wp2
  go_ret
  exact ⟨rfl, rfl⟩
set_option maxRecDepth 100000 in
set_option maxHeartbeats 400000 in
theorem type_Int8 (v : Value) (w : World) : Calls Tryz.prog 203 #[v] w fun e w' => e = .returned (.string "Int8".toUTF8) ∧ w' = w := by
  go_enter Tryz.func203, Tryz.ntmps203
  go_wp2
  go_ret
  exact ⟨rfl, rfl⟩
set_option maxRecDepth 100000 in
set_option maxHeartbeats 400000 in
theorem reset_Int8 (p : Nat) (e : TypeId) (sz : Nat) (w : World) (h : Hold w p 102 e sz none 0 0 []) : Calls Tryz.prog 201 #[.pointer (some ⟨p, 0, none⟩)] w fun ex w' => ex = .returned (.tuple #[]) ∧ Hold w' p 102 e sz none 0 0 [] ∧ Upd [p] w w' := by
  have hc := h.cell
  have hf := h.free
  go_enter Tryz.func201, Tryz.ntmps201
  go_wp2
  go_end0
  exact ⟨rfl, Hold.stored h.blk Row.nil (by simp), (Upd.refl _ _).setCell _ (by simp)⟩
set_option maxRecDepth 100000 in
set_option maxHeartbeats 400000 in
theorem rows_Int16 (ao : Option Addr) (n c : Nat) (w : World) : Calls Tryz.prog 214 #[.slice ao n c] w fun e w' => e = .returned (.int .i64 n) ∧ w' = w := by
  go_enter Tryz.func214, Tryz.ntmps214
  go_wp2
  go_ret
  exact ⟨rfl, rfl⟩
set_option maxRecDepth 100000 in
set_option maxHeartbeats 400000 in
theorem type_Int16 (v : Value) (w : World) : Calls Tryz.prog 215 #[v] w fun e w' => e = .returned (.string "Int16".toUTF8) ∧ w' = w := by
  go_enter Tryz.func215, Tryz.ntmps215
  go_wp2
  go_ret
  exact ⟨rfl, rfl⟩
set_option maxRecDepth 100000 in
set_option maxHeartbeats 400000 in
theorem reset_Int16 (p : Nat) (e : TypeId) (sz : Nat) (w : World) (h : Hold w p 112 e sz none 0 0 []) : Calls Tryz.prog 212 #[.pointer (some ⟨p, 0, none⟩)] w fun ex w' => ex = .returned (.tuple #[]) ∧ Hold w' p 112 e sz none 0 0 [] ∧ Upd [p] w w' := by
  have hc := h.cell
  have hf := h.free
  go_enter Tryz.func212, Tryz.ntmps212
  go_wp2
  go_end0
  exact ⟨rfl, Hold.stored h.blk Row.nil (by simp), (Upd.refl _ _).setCell _ (by simp)⟩
set_option maxRecDepth 100000 in
set_option maxHeartbeats 400000 in
theorem rows_Int32 (ao : Option Addr) (n c : Nat) (w : World) : Calls Tryz.prog 227 #[.slice ao n c] w fun e w' => e = .returned (.int .i64 n) ∧ w' = w := by
  go_enter Tryz.func227, Tryz.ntmps227
  go_wp2
  go_ret
  exact ⟨rfl, rfl⟩
set_option maxRecDepth 100000 in
set_option maxHeartbeats 400000 in
theorem type_Int32 (v : Value) (w : World) : Calls Tryz.prog 228 #[v] w fun e w' => e = .returned (.string "Int32".toUTF8) ∧ w' = w := by
  go_enter Tryz.func228, Tryz.ntmps228
  go_wp2
  go_ret
  exact ⟨rfl, rfl⟩
set_option maxRecDepth 100000 in
set_option maxHeartbeats 400000 in
theorem reset_Int32 (p : Nat) (e : TypeId) (sz : Nat) (w : World) (h : Hold w p 122 e sz none 0 0 []) : Calls Tryz.prog 225 #[.pointer (some ⟨p, 0, none⟩)] w fun ex w' => ex = .returned (.tuple #[]) ∧ Hold w' p 122 e sz none 0 0 [] ∧ Upd [p] w w' := by
  have hc := h.cell
  have hf := h.free
  go_enter Tryz.func225, Tryz.ntmps225
  go_wp2
  go_end0
  exact ⟨rfl, Hold.stored h.blk Row.nil (by simp), (Upd.refl _ _).setCell _ (by simp)⟩
set_option maxRecDepth 100000 in
set_option maxHeartbeats 400000 in
theorem rows_Int64 (ao : Option Addr) (n c : Nat) (w : World) : Calls Tryz.prog 238 #[.slice ao n c] w fun e w' => e = .returned (.int .i64 n) ∧ w' = w := by
  go_enter Tryz.func238, Tryz.ntmps238
  go_wp2
  go_ret
  exact ⟨rfl, rfl⟩
set_option maxRecDepth 100000 in
set_option maxHeartbeats 400000 in
theorem type_Int64 (v : Value) (w : World) : Calls Tryz.prog 239 #[v] w fun e w' => e = .returned (.string "Int64".toUTF8) ∧ w' = w := by
  go_enter Tryz.func239, Tryz.ntmps239
  go_wp2
  go_ret
  exact ⟨rfl, rfl⟩
set_option maxRecDepth 100000 in
set_option maxHeartbeats 400000 in
theorem reset_Int64 (p : Nat) (e : TypeId) (sz : Nat) (w : World) (h : Hold w p 131 e sz none 0 0 []) : Calls Tryz.prog 236 #[.pointer (some ⟨p, 0, none⟩)] w fun ex w' => ex = .returned (.tuple #[]) ∧ Hold w' p 131 e sz none 0 0 [] ∧ Upd [p] w w' := by
  have hc := h.cell
  have hf := h.free
  go_enter Tryz.func236, Tryz.ntmps236
  go_wp2
  go_end0
  exact ⟨rfl, Hold.stored h.blk Row.nil (by simp), (Upd.refl _ _).setCell _ (by simp)⟩
set_option maxRecDepth 100000 in
set_option maxHeartbeats 400000 in
theorem rows_Int128 (ao : Option Addr) (n c : Nat) (w : World) : Calls Tryz.prog 251 #[.slice ao n c] w fun e w' => e = .returned (.int .i64 n) ∧ w' = w := by
  go_enter Tryz.func251, Tryz.ntmps251
  go_wp2
  go_ret
  exact ⟨rfl, rfl⟩
set_option maxRecDepth 100000 in
set_option maxHeartbeats 400000 in
theorem type_Int128 (v : Value) (w : World) : Calls Tryz.prog 252 #[v] w fun e w' => e = .returned (.string "Int128".toUTF8) ∧ w' = w := by
  go_enter Tryz.func252, Tryz.ntmps252
  go_wp2
  go_ret
  exact ⟨rfl, rfl⟩
set_option maxRecDepth 100000 in
set_option maxHeartbeats 400000 in
theorem reset_Int128 (p : Nat) (e : TypeId) (sz : Nat) (w : World) (h : Hold w p 140 e sz none 0 0 []) : Calls Tryz.prog 249 #[.pointer (some ⟨p, 0, none⟩)] w fun ex w' => ex = .returned (.tuple #[]) ∧ Hold w' p 140 e sz none 0 0 [] ∧ Upd [p] w w' := by
  have hc := h.cell
  have hf := h.free
  go_enter Tryz.func249, Tryz.ntmps249
  go_wp2
  go_end0
  exact ⟨rfl, Hold.stored h.blk Row.nil (by simp), (Upd.refl _ _).setCell _ (by simp)⟩
set_option maxRecDepth 100000 in
set_option maxHeartbeats 400000 in
theorem rows_Int256 (ao : Option Addr) (n c : Nat) (w : World) : Calls Tryz.prog 266 #[.slice ao n c] w fun e w' => e = .returned (.int .i64 n) ∧ w' = w := by
  go_enter Tryz.func266, Tryz.ntmps266
  go_wp2
  go_ret
  exact ⟨rfl, rfl⟩
set_option maxRecDepth 100000 in
set_option maxHeartbeats 400000 in
theorem type_Int256 (v : Value) (w : World) : Calls Tryz.prog 267 #[v] w fun e w' => e = .returned (.string "Int256".toUTF8) ∧ w' = w := by
  go_enter Tryz.func267, Tryz.ntmps267
  go_wp2
  go_ret
  exact ⟨rfl, rfl⟩
set_option maxRecDepth 100000 in
set_option maxHeartbeats 400000 in
theorem reset_Int256 (p : Nat) (e : TypeId) (sz : Nat) (w : World) (h : Hold w p 154 e sz none 0 0 []) : Calls Tryz.prog 264 #[.pointer (some ⟨p, 0, none⟩)] w fun ex w' => ex = .returned (.tuple #[]) ∧ Hold w' p 154 e sz none 0 0 [] ∧ Upd [p] w w' := by
  have hc := h.cell
  have hf := h.free
  go_enter Tryz.func264, Tryz.ntmps264
  go_wp2
  go_end0
  exact ⟨rfl, Hold.stored h.blk Row.nil (by simp), (Upd.refl _ _).setCell _ (by simp)⟩
set_option maxRecDepth 100000 in
set_option maxHeartbeats 400000 in
theorem rows_UInt8 (ao : Option Addr) (n c : Nat) (w : World) : Calls Tryz.prog 279 #[.slice ao n c] w fun e w' => e = .returned (.int .i64 n) ∧ w' = w := by
  go_enter Tryz.func279, Tryz.ntmps279
  go_wp2
  go_ret
  exact ⟨rfl, rfl⟩
set_option maxRecDepth 100000 in
set_option maxHeartbeats 400000 in
theorem type_UInt8 (v : Value) (w : World) : Calls Tryz.prog 280 #[v] w fun e w' => e = .returned (.string "UInt8".toUTF8) ∧ w' = w := by
  go_enter Tryz.func280, Tryz.ntmps280
  go_wp2
  go_ret
  exact ⟨rfl, rfl⟩
set_option maxRecDepth 100000 in
set_option maxHeartbeats 400000 in
theorem reset_UInt8 (p : Nat) (e : TypeId) (sz : Nat) (w : World) (h : Hold w p 164 e sz none 0 0 []) : Calls Tryz.prog 277 #[.pointer (some ⟨p, 0, none⟩)] w fun ex w' => ex = .returned (.tuple #[]) ∧ Hold w' p 164 e sz none 0 0 [] ∧ Upd [p] w w' := by
  have hc := h.cell
  have hf := h.free
  go_enter Tryz.func277, Tryz.ntmps277
  go_wp2
  go_end0
  exact ⟨rfl, Hold.stored h.blk Row.nil (by simp), (Upd.refl _ _).setCell _ (by simp)⟩
set_option maxRecDepth 100000 in
set_option maxHeartbeats 400000 in
theorem rows_UInt16 (ao : Option Addr) (n c : Nat) (w : World) : Calls Tryz.prog 290 #[.slice ao n c] w fun e w' => e = .returned (.int .i64 n) ∧ w' = w := by
  go_enter Tryz.func290, Tryz.ntmps290
  go_wp2
  go_ret
  exact ⟨rfl, rfl⟩
set_option maxRecDepth 100000 in
set_option maxHeartbeats 400000 in
theorem type_UInt16 (v : Value) (w : World) : Calls Tryz.prog 291 #[v] w fun e w' => e = .returned (.string "UInt16".toUTF8) ∧ w' = w := by
  go_enter Tryz.func291, Tryz.ntmps291
  go_wp2
  go_ret
  exact ⟨rfl, rfl⟩
set_option maxRecDepth 100000 in
set_option maxHeartbeats 400000 in
theorem reset_UInt16 (p : Nat) (e : TypeId) (sz : Nat) (w : World) (h : Hold w p 173 e sz none 0 0 []) : Calls Tryz.prog 288 #[.pointer (some ⟨p, 0, none⟩)] w fun ex w' => ex = .returned (.tuple #[]) ∧ Hold w' p 173 e sz none 0 0 [] ∧ Upd [p] w w' := by
  have hc := h.cell
  have hf := h.free
  go_enter Tryz.func288, Tryz.ntmps288
  go_wp2
  go_end0
  exact ⟨rfl, Hold.stored h.blk Row.nil (by simp), (Upd.refl _ _).setCell _ (by simp)⟩
set_option maxRecDepth 100000 in
set_option maxHeartbeats 400000 in
theorem rows_UInt32 (ao : Option Addr) (n c : Nat) (w : World) : Calls Tryz.prog 301 #[.slice ao n c] w fun e w' => e = .returned (.int .i64 n) ∧ w' = w := by
  go_enter Tryz.func301, Tryz.ntmps301
  go_wp2
  go_ret
  exact ⟨rfl, rfl⟩
set_option maxRecDepth 100000 in
set_option maxHeartbeats 400000 in
theorem type_UInt32 (v : Value) (w : World) : Calls Tryz.prog 302 #[v] w fun e w' => e = .returned (.string "UInt32".toUTF8) ∧ w' = w := by
  go_enter Tryz.func302, Tryz.ntmps302
  go_wp2
  go_ret
  exact ⟨rfl, rfl⟩
set_option maxRecDepth 100000 in
set_option maxHeartbeats 400000 in
theorem reset_UInt32 (p : Nat) (e : TypeId) (sz : Nat) (w : World) (h : Hold w p 182 e sz none 0 0 []) : Calls Tryz.prog 299 #[.pointer (some ⟨p, 0, none⟩)] w fun ex w' => ex = .returned (.tuple #[]) ∧ Hold w' p 182 e sz none 0 0 [] ∧ Upd [p] w w' := by
  have hc := h.cell
  have hf := h.free
  go_enter Tryz.func299, Tryz.ntmps299
  go_wp2
  go_end0
  exact ⟨rfl, Hold.stored h.blk Row.nil (by simp), (Upd.refl _ _).setCell _ (by simp)⟩
set_option maxRecDepth 100000 in
set_option maxHeartbeats 400000 in
theorem rows_UInt64 (ao : Option Addr) (n c : Nat) (w : World) : Calls Tryz.prog 312 #[.slice ao n c] w fun e w' => e = .returned (.int .i64 n) ∧ w' = w := by
  go_enter Tryz.func312, Tryz.ntmps312
  go_wp2
  go_ret
  exact ⟨rfl, rfl⟩
set_option maxRecDepth 100000 in
set_option maxHeartbeats 400000 in
theorem type_UInt64 (v : Value) (w : World) : Calls Tryz.prog 313 #[v] w fun e w' => e = .returned (.string "UInt64".toUTF8) ∧ w' = w := by
  go_enter Tryz.func313, Tryz.ntmps313
  go_wp2
  go_ret
  exact ⟨rfl, rfl⟩
set_option maxRecDepth 100000 in
set_option maxHeartbeats 400000 in
theorem reset_UInt64 (p : Nat) (e : TypeId) (sz : Nat) (w : World) (h : Hold w p 191 e sz none 0 0 []) : Calls Tryz.prog 310 #[.pointer (some ⟨p, 0, none⟩)] w fun ex w' => ex = .returned (.tuple #[]) ∧ Hold w' p 191 e sz none 0 0 [] ∧ Upd [p] w w' := by
  have hc := h.cell
  have hf := h.free
  go_enter Tryz.func310, Tryz.ntmps310
  go_wp2
  go_end0
  exact ⟨rfl, Hold.stored h.blk Row.nil (by simp), (Upd.refl _ _).setCell _ (by simp)⟩
set_option maxRecDepth 100000 in
set_option maxHeartbeats 400000 in
theorem rows_UInt128 (ao : Option Addr) (n c : Nat) (w : World) : Calls Tryz.prog 324 #[.slice ao n c] w fun e w' => e = .returned (.int .i64 n) ∧ w' = w := by
  go_enter Tryz.func324, Tryz.ntmps324
  go_wp2
  go_ret
  exact ⟨rfl, rfl⟩
set_option maxRecDepth 100000 in
set_option maxHeartbeats 400000 in
theorem type_UInt128 (v : Value) (w : World) : Calls Tryz.prog 325 #[v] w fun e w' => e = .returned (.string "UInt128".toUTF8) ∧ w' = w := by
  go_enter Tryz.func325, Tryz.ntmps325
  go_wp2
  go_ret
  exact ⟨rfl, rfl⟩
set_option maxRecDepth 100000 in
set_option maxHeartbeats 400000 in
theorem reset_UInt128 (p : Nat) (e : TypeId) (sz : Nat) (w : World) (h : Hold w p 235 e sz none 0 0 []) : Calls Tryz.prog 322 #[.pointer (some ⟨p, 0, none⟩)] w fun ex w' => ex = .returned (.tuple #[]) ∧ Hold w' p 235 e sz none 0 0 [] ∧ Upd [p] w w' := by
  have hc := h.cell
  have hf := h.free
  go_enter Tryz.func322, Tryz.ntmps322
  go_wp2
  go_end0
  exact ⟨rfl, Hold.stored h.blk Row.nil (by simp), (Upd.refl _ _).setCell _ (by simp)⟩
set_option maxRecDepth 100000 in
set_option maxHeartbeats 400000 in
theorem rows_UInt256 (ao : Option Addr) (n c : Nat) (w : World) : Calls Tryz.prog 335 #[.slice ao n c] w fun e w' => e = .returned (.int .i64 n) ∧ w' = w := by
  go_enter Tryz.func335, Tryz.ntmps335
  go_wp2
  go_ret
  exact ⟨rfl, rfl⟩
set_option maxRecDepth 100000 in
set_option maxHeartbeats 400000 in
theorem type_UInt256 (v : Value) (w : World) : Calls Tryz.prog 336 #[v] w fun e w' => e = .returned (.string "UInt256".toUTF8) ∧ w' = w := by
  go_enter Tryz.func336, Tryz.ntmps336
  go_wp2
  go_ret
  exact ⟨rfl, rfl⟩
set_option maxRecDepth 100000 in
set_option maxHeartbeats 400000 in
theorem reset_UInt256 (p : Nat) (e : TypeId) (sz : Nat) (w : World) (h : Hold w p 243 e sz none 0 0 []) : Calls Tryz.prog 333 #[.pointer (some ⟨p, 0, none⟩)] w fun ex w' => ex = .returned (.tuple #[]) ∧ Hold w' p 243 e sz none 0 0 [] ∧ Upd [p] w w' := by
  have hc := h.cell
  have hf := h.free
  go_enter Tryz.func333, Tryz.ntmps333
  go_wp2
  go_end0
  exact ⟨rfl, Hold.stored h.blk Row.nil (by simp), (Upd.refl _ _).setCell _ (by simp)⟩
set_option maxRecDepth 100000 in
set_option maxHeartbeats 400000 in
theorem rows_Float32 (ao : Option Addr) (n c : Nat) (w : World) : Calls Tryz.prog 346 #[.slice ao n c] w fun e w' => e = .returned (.int .i64 n) ∧ w' = w := by
  go_enter Tryz.func346, Tryz.ntmps346
  go_wp2
  go_ret
  exact ⟨rfl, rfl⟩
set_option maxRecDepth 100000 in
set_option maxHeartbeats 400000 in
theorem type_Float32 (v : Value) (w : World) : Calls Tryz.prog 347 #[v] w fun e w' => e = .returned (.string "Float32".toUTF8) ∧ w' = w := by
  go_enter Tryz.func347, Tryz.ntmps347
  go_wp2
  go_ret
  exact ⟨rfl, rfl⟩
set_option maxRecDepth 100000 in
set_option maxHeartbeats 400000 in
theorem reset_Float32 (p : Nat) (e : TypeId) (sz : Nat) (w : World) (h : Hold w p 253 e sz none 0 0 []) : Calls Tryz.prog 344 #[.pointer (some ⟨p, 0, none⟩)] w fun ex w' => ex = .returned (.tuple #[]) ∧ Hold w' p 253 e sz none 0 0 [] ∧ Upd [p] w w' := by
  have hc := h.cell
  have hf := h.free
  go_enter Tryz.func344, Tryz.ntmps344
  go_wp2
  go_end0
  exact ⟨rfl, Hold.stored h.blk Row.nil (by simp), (Upd.refl _ _).setCell _ (by simp)⟩
set_option maxRecDepth 100000 in
set_option maxHeartbeats 400000 in
theorem rows_Float64 (ao : Option Addr) (n c : Nat) (w : World) : Calls Tryz.prog 357 #[.slice ao n c] w fun e w' => e = .returned (.int .i64 n) ∧ w' = w := by
  go_enter Tryz.func357, Tryz.ntmps357
  go_wp2
  go_ret
  exact ⟨rfl, rfl⟩
set_option maxRecDepth 100000 in
set_option maxHeartbeats 400000 in
theorem type_Float64 (v : Value) (w : World) : Calls Tryz.prog 358 #[v] w fun e w' => e = .returned (.string "Float64".toUTF8) ∧ w' = w := by
  go_enter Tryz.func358, Tryz.ntmps358
  go_wp2
  go_ret
  exact ⟨rfl, rfl⟩
set_option maxRecDepth 100000 in
set_option maxHeartbeats 400000 in
theorem reset_Float64 (p : Nat) (e : TypeId) (sz : Nat) (w : World) (h : Hold w p 262 e sz none 0 0 []) : Calls Tryz.prog 355 #[.pointer (some ⟨p, 0, none⟩)] w fun ex w' => ex = .returned (.tuple #[]) ∧ Hold w' p 262 e sz none 0 0 [] ∧ Upd [p] w w' := by
  have hc := h.cell
  have hf := h.free
  go_enter Tryz.func355, Tryz.ntmps355
  go_wp2
  go_end0
  exact ⟨rfl, Hold.stored h.blk Row.nil (by simp), (Upd.refl _ _).setCell _ (by simp)⟩
set_option maxRecDepth 100000 in
set_option maxHeartbeats 400000 in
theorem rows_BFloat16 (ao : Option Addr) (n c : Nat) (w : World) : Calls Tryz.prog 369 #[.slice ao n c] w fun e w' => e = .returned (.int .i64 n) ∧ w' = w := by
  go_enter Tryz.func369, Tryz.ntmps369
  go_wp2
  go_ret
  exact ⟨rfl, rfl⟩
set_option maxRecDepth 100000 in
set_option maxHeartbeats 400000 in
theorem type_BFloat16 (v : Value) (w : World) : Calls Tryz.prog 370 #[v] w fun e w' => e = .returned (.string "BFloat16".toUTF8) ∧ w' = w := by
  go_enter Tryz.func370, Tryz.ntmps370
  go_wp2
  go_ret
  exact ⟨rfl, rfl⟩
set_option maxRecDepth 100000 in
set_option maxHeartbeats 400000 in
theorem reset_BFloat16 (p : Nat) (e : TypeId) (sz : Nat) (w : World) (h : Hold w p 273 e sz none 0 0 []) : Calls Tryz.prog 367 #[.pointer (some ⟨p, 0, none⟩)] w fun ex w' => ex = .returned (.tuple #[]) ∧ Hold w' p 273 e sz none 0 0 [] ∧ Upd [p] w w' := by
  have hc := h.cell
  have hf := h.free
  go_enter Tryz.func367, Tryz.ntmps367
  go_wp2
  go_end0
  exact ⟨rfl, Hold.stored h.blk Row.nil (by simp), (Upd.refl _ _).setCell _ (by simp)⟩
set_option maxRecDepth 100000 in
set_option maxHeartbeats 400000 in
theorem rows_Bool (ao : Option Addr) (n c : Nat) (w : World) : Calls Tryz.prog 379 #[.slice ao n c] w fun e w' => e = .returned (.int .i64 n) ∧ w' = w := by
  go_enter Tryz.func379, Tryz.ntmps379
  go_wp2
  go_ret
  exact ⟨rfl, rfl⟩
set_option maxRecDepth 100000 in
set_option maxHeartbeats 400000 in
theorem type_Bool (v : Value) (w : World) : Calls Tryz.prog 380 #[v] w fun e w' => e = .returned (.string "Bool".toUTF8) ∧ w' = w := by
  go_enter Tryz.func380, Tryz.ntmps380
  go_wp2
  go_ret
  exact ⟨rfl, rfl⟩
set_option maxRecDepth 100000 in
set_option maxHeartbeats 400000 in
theorem reset_Bool (p : Nat) (e : TypeId) (sz : Nat) (w : World) (h : Hold w p 276 e sz none 0 0 []) : Calls Tryz.prog 377 #[.pointer (some ⟨p, 0, none⟩)] w fun ex w' => ex = .returned (.tuple #[]) ∧ Hold w' p 276 e sz none 0 0 [] ∧ Upd [p] w w' := by
  have hc := h.cell
  have hf := h.free
  go_enter Tryz.func377, Tryz.ntmps377
  go_wp2
  go_end0
  exact ⟨rfl, Hold.stored h.blk Row.nil (by simp), (Upd.refl _ _).setCell _ (by simp)⟩
set_option maxRecDepth 100000 in
set_option maxHeartbeats 400000 in
theorem rows_IPv4 (ao : Option Addr) (n c : Nat) (w : World) : Calls Tryz.prog 391 #[.slice ao n c] w fun e w' => e = .returned (.int .i64 n) ∧ w' = w := by
  go_enter Tryz.func391, Tryz.ntmps391
  go_wp2
  go_ret
  exact ⟨rfl, rfl⟩
set_option maxRecDepth 100000 in
set_option maxHeartbeats 400000 in
theorem type_IPv4 (v : Value) (w : World) : Calls Tryz.prog 392 #[v] w fun e w' => e = .returned (.string "IPv4".toUTF8) ∧ w' = w := by
  go_enter Tryz.func392, Tryz.ntmps392
  go_wp2
  go_ret
  exact ⟨rfl, rfl⟩
set_option maxRecDepth 100000 in
set_option maxHeartbeats 400000 in
theorem reset_IPv4 (p : Nat) (e : TypeId) (sz : Nat) (w : World) (h : Hold w p 284 e sz none 0 0 []) : Calls Tryz.prog 389 #[.pointer (some ⟨p, 0, none⟩)] w fun ex w' => ex = .returned (.tuple #[]) ∧ Hold w' p 284 e sz none 0 0 [] ∧ Upd [p] w w' := by
  have hc := h.cell
  have hf := h.free
  go_enter Tryz.func389, Tryz.ntmps389
  go_wp2
  go_end0
  exact ⟨rfl, Hold.stored h.blk Row.nil (by simp), (Upd.refl _ _).setCell _ (by simp)⟩
set_option maxRecDepth 100000 in
set_option maxHeartbeats 400000 in
theorem rows_IPv6 (ao : Option Addr) (n c : Nat) (w : World) : Calls Tryz.prog 402 #[.slice ao n c] w fun e w' => e = .returned (.int .i64 n) ∧ w' = w := by
  go_enter Tryz.func402, Tryz.ntmps402
  go_wp2
  go_ret
  exact ⟨rfl, rfl⟩
set_option maxRecDepth 100000 in
set_option maxHeartbeats 400000 in
theorem type_IPv6 (v : Value) (w : World) : Calls Tryz.prog 403 #[v] w fun e w' => e = .returned (.string "IPv6".toUTF8) ∧ w' = w := by
  go_enter Tryz.func403, Tryz.ntmps403
  go_wp2
  go_ret
  exact ⟨rfl, rfl⟩
set_option maxRecDepth 100000 in
set_option maxHeartbeats 400000 in
theorem reset_IPv6 (p : Nat) (e : TypeId) (sz : Nat) (w : World) (h : Hold w p 294 e sz none 0 0 []) : Calls Tryz.prog 400 #[.pointer (some ⟨p, 0, none⟩)] w fun ex w' => ex = .returned (.tuple #[]) ∧ Hold w' p 294 e sz none 0 0 [] ∧ Upd [p] w w' := by
  have hc := h.cell
  have hf := h.free
  go_enter Tryz.func400, Tryz.ntmps400
  go_wp2
  go_end0
  exact ⟨rfl, Hold.stored h.blk Row.nil (by simp), (Upd.refl _ _).setCell _ (by simp)⟩
set_option maxRecDepth 100000 in
set_option maxHeartbeats 400000 in
theorem row_Int8 (g n c i : Nat) (v : Value) (w : World) (h : w.cell? ⟨g, i, none⟩ = some v) (hi : i < n) : Calls Tryz.prog 456 #[.slice (some ⟨g, 0, none⟩) n c, .int .i64 i] w fun e w' => e = .returned v ∧ Upd [] w w' := by
  have hk0 : ((i : Int) < n) := by omega
  go_enter Tryz.func456, Tryz.ntmps456
  go_wp2
  go_ret
  exact ⟨rfl, Upd.refl _ _⟩
set_option maxRecDepth 100000 in
set_option maxHeartbeats 400000 in
theorem row_Int16 (g n c i : Nat) (v : Value) (w : World) (h : w.cell? ⟨g, i, none⟩ = some v) (hi : i < n) : Calls Tryz.prog 213 #[.slice (some ⟨g, 0, none⟩) n c, .int .i64 i] w fun e w' => e = .returned v ∧ Upd [] w w' := by
  have hk0 : ((i : Int) < n) := by omega
  go_enter Tryz.func213, Tryz.ntmps213
  go_wp2
  go_ret
  exact ⟨rfl, Upd.refl _ _⟩
set_option maxRecDepth 100000 in
set_option maxHeartbeats 400000 in
theorem row_Int32 (g n c i : Nat) (v : Value) (w : World) (h : w.cell? ⟨g, i, none⟩ = some v) (hi : i < n) : Calls Tryz.prog 226 #[.slice (some ⟨g, 0, none⟩) n c, .int .i64 i] w fun e w' => e = .returned v ∧ Upd [] w w' := by
  have hk0 : ((i : Int) < n) := by omega
  go_enter Tryz.func226, Tryz.ntmps226
  go_wp2
  go_ret
  exact ⟨rfl, Upd.refl _ _⟩
set_option maxRecDepth 100000 in
set_option maxHeartbeats 400000 in
theorem row_Int64 (g n c i : Nat) (v : Value) (w : World) (h : w.cell? ⟨g, i, none⟩ = some v) (hi : i < n) : Calls Tryz.prog 237 #[.slice (some ⟨g, 0, none⟩) n c, .int .i64 i] w fun e w' => e = .returned v ∧ Upd [] w w' := by
  have hk0 : ((i : Int) < n) := by omega
  go_enter Tryz.func237, Tryz.ntmps237
  go_wp2
  go_ret
  exact ⟨rfl, Upd.refl _ _⟩
set_option maxRecDepth 100000 in
set_option maxHeartbeats 400000 in
theorem row_UInt8 (g n c i : Nat) (v : Value) (w : World) (h : w.cell? ⟨g, i, none⟩ = some v) (hi : i < n) : Calls Tryz.prog 278 #[.slice (some ⟨g, 0, none⟩) n c, .int .i64 i] w fun e w' => e = .returned v ∧ Upd [] w w' := by
  have hk0 : ((i : Int) < n) := by omega
  go_enter Tryz.func278, Tryz.ntmps278
  go_wp2
  go_ret
  exact ⟨rfl, Upd.refl _ _⟩
set_option maxRecDepth 100000 in
set_option maxHeartbeats 400000 in
theorem row_UInt16 (g n c i : Nat) (v : Value) (w : World) (h : w.cell? ⟨g, i, none⟩ = some v) (hi : i < n) : Calls Tryz.prog 289 #[.slice (some ⟨g, 0, none⟩) n c, .int .i64 i] w fun e w' => e = .returned v ∧ Upd [] w w' := by
  have hk0 : ((i : Int) < n) := by omega
  go_enter Tryz.func289, Tryz.ntmps289
  go_wp2
  go_ret
  exact ⟨rfl, Upd.refl _ _⟩
set_option maxRecDepth 100000 in
set_option maxHeartbeats 400000 in
theorem row_UInt32 (g n c i : Nat) (v : Value) (w : World) (h : w.cell? ⟨g, i, none⟩ = some v) (hi : i < n) : Calls Tryz.prog 300 #[.slice (some ⟨g, 0, none⟩) n c, .int .i64 i] w fun e w' => e = .returned v ∧ Upd [] w w' := by
  have hk0 : ((i : Int) < n) := by omega
  go_enter Tryz.func300, Tryz.ntmps300
  go_wp2
  go_ret
  exact ⟨rfl, Upd.refl _ _⟩
set_option maxRecDepth 100000 in
set_option maxHeartbeats 400000 in
theorem row_UInt64 (g n c i : Nat) (v : Value) (w : World) (h : w.cell? ⟨g, i, none⟩ = some v) (hi : i < n) : Calls Tryz.prog 311 #[.slice (some ⟨g, 0, none⟩) n c, .int .i64 i] w fun e w' => e = .returned v ∧ Upd [] w w' := by
  have hk0 : ((i : Int) < n) := by omega
  go_enter Tryz.func311, Tryz.ntmps311
  go_wp2
  go_ret
  exact ⟨rfl, Upd.refl _ _⟩
set_option maxRecDepth 100000 in
set_option maxHeartbeats 400000 in
theorem row_Float32 (g n c i : Nat) (v : Value) (w : World) (h : w.cell? ⟨g, i, none⟩ = some v) (hi : i < n) : Calls Tryz.prog 345 #[.slice (some ⟨g, 0, none⟩) n c, .int .i64 i] w fun e w' => e = .returned v ∧ Upd [] w w' := by
  have hk0 : ((i : Int) < n) := by omega
  go_enter Tryz.func345, Tryz.ntmps345
  go_wp2
  go_ret
  exact ⟨rfl, Upd.refl _ _⟩
set_option maxRecDepth 100000 in
set_option maxHeartbeats 400000 in
theorem row_Float64 (g n c i : Nat) (v : Value) (w : World) (h : w.cell? ⟨g, i, none⟩ = some v) (hi : i < n) : Calls Tryz.prog 356 #[.slice (some ⟨g, 0, none⟩) n c, .int .i64 i] w fun e w' => e = .returned v ∧ Upd [] w w' := by
  have hk0 : ((i : Int) < n) := by omega
  go_enter Tryz.func356, Tryz.ntmps356
  go_wp2
  go_ret
  exact ⟨rfl, Upd.refl _ _⟩
set_option maxRecDepth 100000 in
set_option maxHeartbeats 400000 in
theorem row_Bool (g n c i : Nat) (v : Value) (w : World) (h : w.cell? ⟨g, i, none⟩ = some v) (hi : i < n) : Calls Tryz.prog 378 #[.slice (some ⟨g, 0, none⟩) n c, .int .i64 i] w fun e w' => e = .returned v ∧ Upd [] w w' := by
  have hk0 : ((i : Int) < n) := by omega
  go_enter Tryz.func378, Tryz.ntmps378
  go_wp2
  go_ret
  exact ⟨rfl, Upd.refl _ _⟩
set_option maxRecDepth 100000 in
set_option maxHeartbeats 400000 in
theorem row_IPv4 (g n c i : Nat) (v : Value) (w : World) (h : w.cell? ⟨g, i, none⟩ = some v) (hi : i < n) : Calls Tryz.prog 390 #[.slice (some ⟨g, 0, none⟩) n c, .int .i64 i] w fun e w' => e = .returned v ∧ Upd [] w w' := by
  have hk0 : ((i : Int) < n) := by omega
  go_enter Tryz.func390, Tryz.ntmps390
  go_wp2
  go_ret
  exact ⟨rfl, Upd.refl _ _⟩
set_option maxRecDepth 100000 in
set_option maxHeartbeats 400000 in
theorem row_Int128 (g n c i : Nat) (cs : List Value) (w : World) (h : w.rangeAt g (i * 2) cs) (hl : cs.length = 2) (h1 : ∀ u ∈ cs, u.oneCell' = true) (hg : g < w.heap.size) (hi : i < n) : Calls Tryz.prog 250 #[.slice (some ⟨g, 0, none⟩) n c, .int .i64 i] w fun e w' => e = .returned (.agg cs.toArray) ∧ Upd [] w w' := by
  have hk0 : ((i : Int) < n) := by omega
  have hs : (Tryz.prog.info? 142).map (·.size) = some cs.length := by rw [hl]; kernel_rfl
  go_enter Tryz.func250, Tryz.ntmps250
  have hk1 := heap_alloc_new w
  have hu1 := fun o => (Upd.refl [] w).alloc o
  go_wp2_with (first
    | ((with_reducible show wpList _ _ _ _ _ _); with_reducible refine wpList_load_mid rfl 142 (.tmp 7) rfl g (i * 2) rfl cs _ ((hu1 _).range h hg (by simp)) Tryz.underlying142 rfl hs ?_)
    | ((with_reducible show wpList _ _ _ _ _ _); refine wpList_store_blk rfl 142 (.tmp 4) (.tmp 8) rfl (b := w.heap.size) rfl (hk1 _) (cs := cs) rfl (by rw [hl]; rfl) hs h1 ?_; intro w4 hb4 hu4; simp only [Act.put]))
  refine bodyPost_ret (results_cell1 Tryz.results250 (b := w.heap.size) rfl (run_loadVar_mid _ w.heap.size 0 142 cs _ (rangeAt_blk hb4) Tryz.underlying142 rfl hs)) rfl ⟨rfl, ?_⟩
  exact (hu1 _).trans hu4 (fun y hy => by simp at hy; exact .inr (by omega))
set_option maxRecDepth 100000 in
set_option maxHeartbeats 400000 in
theorem row_UInt128 (g n c i : Nat) (cs : List Value) (w : World) (h : w.rangeAt g (i * 2) cs) (hl : cs.length = 2) (h1 : ∀ u ∈ cs, u.oneCell' = true) (hg : g < w.heap.size) (hi : i < n) : Calls Tryz.prog 323 #[.slice (some ⟨g, 0, none⟩) n c, .int .i64 i] w fun e w' => e = .returned (.agg cs.toArray) ∧ Upd [] w w' := by
  have hk0 : ((i : Int) < n) := by omega
  have hs : (Tryz.prog.info? 143).map (·.size) = some cs.length := by rw [hl]; kernel_rfl
  go_enter Tryz.func323, Tryz.ntmps323
  have hk1 := heap_alloc_new w
  have hu1 := fun o => (Upd.refl [] w).alloc o
  go_wp2_with (first
    | ((with_reducible show wpList _ _ _ _ _ _); with_reducible refine wpList_load_mid rfl 143 (.tmp 7) rfl g (i * 2) rfl cs _ ((hu1 _).range h hg (by simp)) Tryz.underlying143 rfl hs ?_)
    | ((with_reducible show wpList _ _ _ _ _ _); refine wpList_store_blk rfl 143 (.tmp 4) (.tmp 8) rfl (b := w.heap.size) rfl (hk1 _) (cs := cs) rfl (by rw [hl]; rfl) hs h1 ?_; intro w4 hb4 hu4; simp only [Act.put]))
  refine bodyPost_ret (results_cell1 Tryz.results323 (b := w.heap.size) rfl (run_loadVar_mid _ w.heap.size 0 143 cs _ (rangeAt_blk hb4) Tryz.underlying143 rfl hs)) rfl ⟨rfl, ?_⟩
  exact (hu1 _).trans hu4 (fun y hy => by simp at hy; exact .inr (by omega))
set_option maxRecDepth 100000 in
set_option maxHeartbeats 400000 in
theorem row_Int256 (g n c i : Nat) (cs : List Value) (w : World) (h : w.rangeAt g (i * 4) cs) (hl : cs.length = 4) (h1 : ∀ u ∈ cs, u.oneCell' = true) (hg : g < w.heap.size) (hi : i < n) : Calls Tryz.prog 265 #[.slice (some ⟨g, 0, none⟩) n c, .int .i64 i] w fun e w' => e = .returned (.agg cs.toArray) ∧ Upd [] w w' := by
  have hk0 : ((i : Int) < n) := by omega
  have hs : (Tryz.prog.info? 156).map (·.size) = some cs.length := by rw [hl]; kernel_rfl
  go_enter Tryz.func265, Tryz.ntmps265
  have hk1 := heap_alloc_new w
  have hu1 := fun o => (Upd.refl [] w).alloc o
  go_wp2_with (first
    | ((with_reducible show wpList _ _ _ _ _ _); with_reducible refine wpList_load_mid rfl 156 (.tmp 7) rfl g (i * 4) rfl cs _ ((hu1 _).range h hg (by simp)) Tryz.underlying156 rfl hs ?_)
    | ((with_reducible show wpList _ _ _ _ _ _); refine wpList_store_blk rfl 156 (.tmp 4) (.tmp 8) rfl (b := w.heap.size) rfl (hk1 _) (cs := cs) rfl (by rw [hl]; rfl) hs h1 ?_; intro w4 hb4 hu4; simp only [Act.put]))
  refine bodyPost_ret (results_cell1 Tryz.results265 (b := w.heap.size) rfl (run_loadVar_mid _ w.heap.size 0 156 cs _ (rangeAt_blk hb4) Tryz.underlying156 rfl hs)) rfl ⟨rfl, ?_⟩
  exact (hu1 _).trans hu4 (fun y hy => by simp at hy; exact .inr (by omega))
set_option maxRecDepth 100000 in
set_option maxHeartbeats 400000 in
theorem row_UInt256 (g n c i : Nat) (cs : List Value) (w : World) (h : w.rangeAt g (i * 4) cs) (hl : cs.length = 4) (h1 : ∀ u ∈ cs, u.oneCell' = true) (hg : g < w.heap.size) (hi : i < n) : Calls Tryz.prog 334 #[.slice (some ⟨g, 0, none⟩) n c, .int .i64 i] w fun e w' => e = .returned (.agg cs.toArray) ∧ Upd [] w w' := by
  have hk0 : ((i : Int) < n) := by omega
  have hs : (Tryz.prog.info? 244).map (·.size) = some cs.length := by rw [hl]; kernel_rfl
  go_enter Tryz.func334, Tryz.ntmps334
  have hk1 := heap_alloc_new w
  have hu1 := fun o => (Upd.refl [] w).alloc o
  go_wp2_with (first
    | ((with_reducible show wpList _ _ _ _ _ _); with_reducible refine wpList_load_mid rfl 244 (.tmp 7) rfl g (i * 4) rfl cs _ ((hu1 _).range h hg (by simp)) Tryz.underlying244 rfl hs ?_)
    | ((with_reducible show wpList _ _ _ _ _ _); refine wpList_store_blk rfl 244 (.tmp 4) (.tmp 8) rfl (b := w.heap.size) rfl (hk1 _) (cs := cs) rfl (by rw [hl]; rfl) hs h1 ?_; intro w4 hb4 hu4; simp only [Act.put]))
  refine bodyPost_ret (results_cell1 Tryz.results334 (b := w.heap.size) rfl (run_loadVar_mid _ w.heap.size 0 244 cs _ (rangeAt_blk hb4) Tryz.underlying244 rfl hs)) rfl ⟨rfl, ?_⟩
  exact (hu1 _).trans hu4 (fun y hy => by simp at hy; exact .inr (by omega))
set_option maxRecDepth 100000 in
set_option maxHeartbeats 400000 in
theorem row_IPv6 (g n c i : Nat) (cs : List Value) (w : World) (h : w.rangeAt g (i * 16) cs) (hl : cs.length = 16) (h1 : ∀ u ∈ cs, u.oneCell' = true) (hg : g < w.heap.size) (hi : i < n) : Calls Tryz.prog 401 #[.slice (some ⟨g, 0, none⟩) n c, .int .i64 i] w fun e w' => e = .returned (.agg cs.toArray) ∧ Upd [] w w' := by
  have hk0 : ((i : Int) < n) := by omega
  have hs : (Tryz.prog.info? 296).map (·.size) = some cs.length := by rw [hl]; kernel_rfl
  go_enter Tryz.func401, Tryz.ntmps401
  have hk1 := heap_alloc_new w
  have hu1 := fun o => (Upd.refl [] w).alloc o
  go_wp2_with (first
    | ((with_reducible show wpList _ _ _ _ _ _); with_reducible refine wpList_load_mid rfl 296 (.tmp 7) rfl g (i * 16) rfl cs _ ((hu1 _).range h hg (by simp)) Tryz.underlying296 rfl hs ?_)
    | ((with_reducible show wpList _ _ _ _ _ _); refine wpList_store_blk rfl 296 (.tmp 4) (.tmp 8) rfl (b := w.heap.size) rfl (hk1 _) (cs := cs) rfl (by rw [hl]; rfl) hs h1 ?_; intro w4 hb4 hu4; simp only [Act.put]))
  refine bodyPost_ret (results_cell1 Tryz.results401 (b := w.heap.size) rfl (run_loadVar_mid _ w.heap.size 0 296 cs _ (rangeAt_blk hb4) Tryz.underlying296 rfl hs)) rfl ⟨rfl, ?_⟩
  exact (hu1 _).trans hu4 (fun y hy => by simp at hy; exact .inr (by omega))
set_option maxRecDepth 100000 in
set_option maxHeartbeats 400000 in
theorem row_BFloat16 (g n c i : Nat) (x : Int) (hx : 0 ≤ x ∧ x < 65536) (w : World) (h : w.cell? ⟨g, i, none⟩ = some (.int .u16 x)) (hi : i < n) : Calls Tryz.prog 368 #[.slice (some ⟨g, 0, none⟩) n c, .int .i64 i] w fun e w' => e = .returned (.float .f32 (x * 65536).toNat) ∧ Upd [] w w' := by
  have hk0 : ((i : Int) < n) := by omega
  go_enter Tryz.func368, Tryz.ntmps368
  go_wp2_with (go_at_call 373; (refine (ofBF x hx _).mono ?_); rintro e w2 ⟨rfl, rfl⟩)
  go_ret
  exact ⟨rfl, Upd.refl _ _⟩
set_option maxRecDepth 100000 in
set_option maxHeartbeats 1000000 in
theorem out_ipx (x0 x1 x2 x3 x4 x5 x6 x7 y0 y1 y2 y3 y4 y5 y6 y7 : Int) (hx : ∀ x ∈ [x0, x1, x2, x3, x4, x5, x6, x7, y0, y1, y2, y3, y4, y5, y6, y7], 0 ≤ x ∧ x < 256) (w : World) :
    Calls Tryz.prog 91 #[.agg (([x0, x1, x2, x3, x4, x5, x6, x7, y0, y1, y2, y3, y4, y5, y6, y7] : List Int).map (Value.int .u8)).toArray] w fun e w' => e = .returned (R4.agg ⟨psum [x0, x1, x2, x3, x4, x5, x6, x7] 8, psum [y0, y1, y2, y3, y4, y5, y6, y7] 8, 0, 0⟩) ∧ Upd [] w w' := by
  have hrow := row16 x0 x1 x2 x3 x4 x5 x6 x7 y0 y1 y2 y3 y4 y5 y6 y7 hx
  obtain ⟨A, hA⟩ : ∃ A, A = psum [x0, x1, x2, x3, x4, x5, x6, x7] 8 := ⟨_, rfl⟩
  obtain ⟨B, hB⟩ : ∃ B, B = psum [y0, y1, y2, y3, y4, y5, y6, y7] 8 := ⟨_, rfl⟩
  rw [← hA, ← hB] at hrow ⊢
  clear hA hB
  simp only [List.map_cons, List.map_nil, R4.agg] at hrow ⊢
  obtain ⟨k1, u1, s1⟩ := alloc_facts w (Obj.cells #[.int .u8 x0, .int .u8 x1, .int .u8 x2, .int .u8 x3, .int .u8 x4, .int .u8 x5, .int .u8 x6, .int .u8 x7, .int .u8 y0, .int .u8 y1, .int .u8 y2, .int .u8 y3, .int .u8 y4, .int .u8 y5, .int .u8 y6, .int .u8 y7] 296)
  obtain ⟨k2, u2, s2⟩ := alloc_facts (w.alloc (Obj.cells #[.int .u8 x0, .int .u8 x1, .int .u8 x2, .int .u8 x3, .int .u8 x4, .int .u8 x5, .int .u8 x6, .int .u8 x7, .int .u8 y0, .int .u8 y1, .int .u8 y2, .int .u8 y3, .int .u8 y4, .int .u8 y5, .int .u8 y6, .int .u8 y7] 296)) (Obj.cells #[.int .u64 0, .int .u64 0, .int .u64 0, .int .u64 0] 67)
  have r1 := rangeAt_blk (cs := [.int .u8 x0, .int .u8 x1, .int .u8 x2, .int .u8 x3, .int .u8 x4, .int .u8 x5, .int .u8 x6, .int .u8 x7, .int .u8 y0, .int .u8 y1, .int .u8 y2, .int .u8 y3, .int .u8 y4, .int .u8 y5, .int .u8 y6, .int .u8 y7]) (u2.at k1 (by simp))
  rw [s1] at k2
  go_enter Tryz.func91, Tryz.ntmps91
  go_wp2_with (first
    | ((with_reducible show wpList _ _ _ _ _ _); with_reducible refine wpList_load_mid rfl 296 (.tmp 1) rfl w.heap.size 0 rfl [.int .u8 x0, .int .u8 x1, .int .u8 x2, .int .u8 x3, .int .u8 x4, .int .u8 x5, .int .u8 x6, .int .u8 x7, .int .u8 y0, .int .u8 y1, .int .u8 y2, .int .u8 y3, .int .u8 y4, .int .u8 y5, .int .u8 y6, .int .u8 y7] _ r1 Tryz.underlying296 rfl (by kernel_rfl) ?_)
    | (go_at_call 92; (refine (hrow _).mono ?_); rintro e w2 ⟨rfl, hu2⟩; have k3 := hu2.at k2 (by simp))
    | ((with_reducible show wpList _ _ _ _ _ _); refine wpList_store_blk rfl 67 (.tmp 2) (.tmp 4) rfl (b := w.heap.size + 1) rfl k3 (cs := [.int .u64 A, .int .u64 B, .int .u64 0, .int .u64 0]) rfl rfl (by kernel_rfl) (by simp [Value.oneCell']) ?_; intro w4 hb4 hu4; simp only [Act.put]))
  refine bodyPost_ret (results_cell1 Tryz.results91 (b := w.heap.size + 1) rfl (run_loadVar_mid _ (w.heap.size + 1) 0 67 [.int .u64 A, .int .u64 B, .int .u64 0, .int .u64 0] _ (rangeAt_blk hb4) Tryz.underlying67 rfl (by kernel_rfl))) rfl ⟨rfl, ?_⟩
  exact ((u1.trans u2 (fun _ h => .inl h)).trans hu2 (fun _ h => .inl h)).trans hu4 (fun y hy => by simp at hy; exact .inr (by omega))
theorem psum8 (a : Int) (h : 0 ≤ a ∧ a < 18446744073709551616) : psum [byteAt a 0, byteAt a 1, byteAt a 2, byteAt a 3, byteAt a 4, byteAt a 5, byteAt a 6, byteAt a 7] 8 = a := by
  simp only [psum, byteAt]
  omega
theorem lowV16 (a b : Int) : lowV a b 16 = (([byteAt a 0, byteAt a 1, byteAt a 2, byteAt a 3, byteAt a 4, byteAt a 5, byteAt a 6, byteAt a 7] ++ [byteAt b 0, byteAt b 1, byteAt b 2, byteAt b 3, byteAt b 4, byteAt b 5, byteAt b 6, byteAt b 7] : List Int)).map (Value.int .u8) := rfl
theorem out_ip (a b : Int) (ha : 0 ≤ a ∧ a < 18446744073709551616) (hb : 0 ≤ b ∧ b < 18446744073709551616) (w : World) :
    Calls Tryz.prog 91 #[.agg (lowV a b 16).toArray] w fun e w' => e = .returned (R4.agg ⟨a, b, 0, 0⟩) ∧ Upd [] w w' := by
  have h := out_ipx (byteAt a 0) (byteAt a 1) (byteAt a 2) (byteAt a 3) (byteAt a 4) (byteAt a 5) (byteAt a 6) (byteAt a 7) (byteAt b 0) (byteAt b 1) (byteAt b 2) (byteAt b 3) (byteAt b 4) (byteAt b 5) (byteAt b 6) (byteAt b 7) (by
    intro x hx
    simp only [List.mem_cons, List.not_mem_nil, or_false] at hx
    rcases hx with rfl | rfl | rfl | rfl | rfl | rfl | rfl | rfl | rfl | rfl | rfl | rfl | rfl | rfl | rfl | rfl <;> exact byteAt_range _ _) w
  rw [psum8 a ha, psum8 b hb] at h
  exact h
end Go.Proofs.YtfbohkbpgfnceaaGreatDoor
