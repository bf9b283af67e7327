/- Row, Rows, Type, Reset of each column; an address read back. -/
import Derived.Test.YtjhfjifeeomciaaGreatDoorKC
import Derived.Test.YtjhfjifeeomciaaGreatDoorKW
namespace Go.Proofs.YtjhfjifeeomciaaGreatDoor
set_option linter.unusedVariables false
set_option linter.unusedSimpArgs false
open Go Go.RowKit
set_option maxRecDepth 100000 in
set_option maxHeartbeats 400000 in
theorem rows_Int8 (ao : Option Addr) (n c : Nat) (w : World) : Calls Tryz.prog 210 #[.slice ao n c] w fun e w' => e = .returned (.int .i64 n) ∧ w' = w := by
  go_enter Tryz.func210, Tryz.ntmps210
  go_wp2
  go_ret
  exact ⟨rfl, rfl⟩
set_option maxRecDepth 100000 in
set_option maxHeartbeats 400000 in
theorem type_Int8 (v : Value) (w : World) : Calls Tryz.prog 211 #[v] w fun e w' => e = .returned (.string "Int8".toUTF8) ∧ w' = w := by
  go_enter Tryz.func211, Tryz.ntmps211
  go_wp2
  go_ret
  exact ⟨rfl, rfl⟩
set_option maxRecDepth 100000 in
set_option maxHeartbeats 400000 in
theorem reset_Int8 (p : Nat) (e : TypeId) (sz : Nat) (w : World) (h : Hold w p 108 e sz none 0 0 []) : Calls Tryz.prog 209 #[.pointer (some ⟨p, 0, none⟩)] w fun ex w' => ex = .returned (.tuple #[]) ∧ Hold w' p 108 e sz none 0 0 [] ∧ Upd [p] w w' := by
  have hc := h.cell
  have hf := h.free
  go_enter Tryz.func209, Tryz.ntmps209
  go_wp2
  go_end0
  exact ⟨rfl, Hold.stored h.blk Row.nil (by simp), (Upd.refl _ _).setCell _ (by simp)⟩
set_option maxRecDepth 100000 in
set_option maxHeartbeats 400000 in
theorem rows_Int16 (ao : Option Addr) (n c : Nat) (w : World) : Calls Tryz.prog 222 #[.slice ao n c] w fun e w' => e = .returned (.int .i64 n) ∧ w' = w := by
  go_enter Tryz.func222, Tryz.ntmps222
  go_wp2
  go_ret
  exact ⟨rfl, rfl⟩
set_option maxRecDepth 100000 in
set_option maxHeartbeats 400000 in
theorem type_Int16 (v : Value) (w : World) : Calls Tryz.prog 223 #[v] w fun e w' => e = .returned (.string "Int16".toUTF8) ∧ w' = w := by
  go_enter Tryz.func223, Tryz.ntmps223
  go_wp2
  go_ret
  exact ⟨rfl, rfl⟩
set_option maxRecDepth 100000 in
set_option maxHeartbeats 400000 in
theorem reset_Int16 (p : Nat) (e : TypeId) (sz : Nat) (w : World) (h : Hold w p 118 e sz none 0 0 []) : Calls Tryz.prog 220 #[.pointer (some ⟨p, 0, none⟩)] w fun ex w' => ex = .returned (.tuple #[]) ∧ Hold w' p 118 e sz none 0 0 [] ∧ Upd [p] w w' := by
  have hc := h.cell
  have hf := h.free
  go_enter Tryz.func220, Tryz.ntmps220
  go_wp2
  go_end0
  exact ⟨rfl, Hold.stored h.blk Row.nil (by simp), (Upd.refl _ _).setCell _ (by simp)⟩
set_option maxRecDepth 100000 in
set_option maxHeartbeats 400000 in
theorem rows_Int32 (ao : Option Addr) (n c : Nat) (w : World) : Calls Tryz.prog 235 #[.slice ao n c] w fun e w' => e = .returned (.int .i64 n) ∧ w' = w := by
  go_enter Tryz.func235, Tryz.ntmps235
  go_wp2
  go_ret
  exact ⟨rfl, rfl⟩
set_option maxRecDepth 100000 in
set_option maxHeartbeats 400000 in
theorem type_Int32 (v : Value) (w : World) : Calls Tryz.prog 236 #[v] w fun e w' => e = .returned (.string "Int32".toUTF8) ∧ w' = w := by
  go_enter Tryz.func236, Tryz.ntmps236
  go_wp2
  go_ret
  exact ⟨rfl, rfl⟩
set_option maxRecDepth 100000 in
set_option maxHeartbeats 400000 in
theorem reset_Int32 (p : Nat) (e : TypeId) (sz : Nat) (w : World) (h : Hold w p 128 e sz none 0 0 []) : Calls Tryz.prog 233 #[.pointer (some ⟨p, 0, none⟩)] w fun ex w' => ex = .returned (.tuple #[]) ∧ Hold w' p 128 e sz none 0 0 [] ∧ Upd [p] w w' := by
  have hc := h.cell
  have hf := h.free
  go_enter Tryz.func233, Tryz.ntmps233
  go_wp2
  go_end0
  exact ⟨rfl, Hold.stored h.blk Row.nil (by simp), (Upd.refl _ _).setCell _ (by simp)⟩
set_option maxRecDepth 100000 in
set_option maxHeartbeats 400000 in
theorem rows_Int64 (ao : Option Addr) (n c : Nat) (w : World) : Calls Tryz.prog 246 #[.slice ao n c] w fun e w' => e = .returned (.int .i64 n) ∧ w' = w := by
  go_enter Tryz.func246, Tryz.ntmps246
  go_wp2
  go_ret
  exact ⟨rfl, rfl⟩
set_option maxRecDepth 100000 in
set_option maxHeartbeats 400000 in
theorem type_Int64 (v : Value) (w : World) : Calls Tryz.prog 247 #[v] w fun e w' => e = .returned (.string "Int64".toUTF8) ∧ w' = w := by
  go_enter Tryz.func247, Tryz.ntmps247
  go_wp2
  go_ret
  exact ⟨rfl, rfl⟩
set_option maxRecDepth 100000 in
set_option maxHeartbeats 400000 in
theorem reset_Int64 (p : Nat) (e : TypeId) (sz : Nat) (w : World) (h : Hold w p 137 e sz none 0 0 []) : Calls Tryz.prog 244 #[.pointer (some ⟨p, 0, none⟩)] w fun ex w' => ex = .returned (.tuple #[]) ∧ Hold w' p 137 e sz none 0 0 [] ∧ Upd [p] w w' := by
  have hc := h.cell
  have hf := h.free
  go_enter Tryz.func244, Tryz.ntmps244
  go_wp2
  go_end0
  exact ⟨rfl, Hold.stored h.blk Row.nil (by simp), (Upd.refl _ _).setCell _ (by simp)⟩
set_option maxRecDepth 100000 in
set_option maxHeartbeats 400000 in
theorem rows_Int128 (ao : Option Addr) (n c : Nat) (w : World) : Calls Tryz.prog 259 #[.slice ao n c] w fun e w' => e = .returned (.int .i64 n) ∧ w' = w := by
  go_enter Tryz.func259, Tryz.ntmps259
  go_wp2
  go_ret
  exact ⟨rfl, rfl⟩
set_option maxRecDepth 100000 in
set_option maxHeartbeats 400000 in
theorem type_Int128 (v : Value) (w : World) : Calls Tryz.prog 260 #[v] w fun e w' => e = .returned (.string "Int128".toUTF8) ∧ w' = w := by
  go_enter Tryz.func260, Tryz.ntmps260
  go_wp2
  go_ret
  exact ⟨rfl, rfl⟩
set_option maxRecDepth 100000 in
set_option maxHeartbeats 400000 in
theorem reset_Int128 (p : Nat) (e : TypeId) (sz : Nat) (w : World) (h : Hold w p 146 e sz none 0 0 []) : Calls Tryz.prog 257 #[.pointer (some ⟨p, 0, none⟩)] w fun ex w' => ex = .returned (.tuple #[]) ∧ Hold w' p 146 e sz none 0 0 [] ∧ Upd [p] w w' := by
  have hc := h.cell
  have hf := h.free
  go_enter Tryz.func257, Tryz.ntmps257
  go_wp2
  go_end0
  exact ⟨rfl, Hold.stored h.blk Row.nil (by simp), (Upd.refl _ _).setCell _ (by simp)⟩
set_option maxRecDepth 100000 in
set_option maxHeartbeats 400000 in
theorem rows_Int256 (ao : Option Addr) (n c : Nat) (w : World) : Calls Tryz.prog 274 #[.slice ao n c] w fun e w' => e = .returned (.int .i64 n) ∧ w' = w := by
  go_enter Tryz.func274, Tryz.ntmps274
  go_wp2
  go_ret
  exact ⟨rfl, rfl⟩
set_option maxRecDepth 100000 in
set_option maxHeartbeats 400000 in
theorem type_Int256 (v : Value) (w : World) : Calls Tryz.prog 275 #[v] w fun e w' => e = .returned (.string "Int256".toUTF8) ∧ w' = w := by
  go_enter Tryz.func275, Tryz.ntmps275
  go_wp2
  go_ret
  exact ⟨rfl, rfl⟩
set_option maxRecDepth 100000 in
set_option maxHeartbeats 400000 in
theorem reset_Int256 (p : Nat) (e : TypeId) (sz : Nat) (w : World) (h : Hold w p 160 e sz none 0 0 []) : Calls Tryz.prog 272 #[.pointer (some ⟨p, 0, none⟩)] w fun ex w' => ex = .returned (.tuple #[]) ∧ Hold w' p 160 e sz none 0 0 [] ∧ Upd [p] w w' := by
  have hc := h.cell
  have hf := h.free
  go_enter Tryz.func272, Tryz.ntmps272
  go_wp2
  go_end0
  exact ⟨rfl, Hold.stored h.blk Row.nil (by simp), (Upd.refl _ _).setCell _ (by simp)⟩
set_option maxRecDepth 100000 in
set_option maxHeartbeats 400000 in
theorem rows_UInt8 (ao : Option Addr) (n c : Nat) (w : World) : Calls Tryz.prog 287 #[.slice ao n c] w fun e w' => e = .returned (.int .i64 n) ∧ w' = w := by
  go_enter Tryz.func287, Tryz.ntmps287
  go_wp2
  go_ret
  exact ⟨rfl, rfl⟩
set_option maxRecDepth 100000 in
set_option maxHeartbeats 400000 in
theorem type_UInt8 (v : Value) (w : World) : Calls Tryz.prog 288 #[v] w fun e w' => e = .returned (.string "UInt8".toUTF8) ∧ w' = w := by
  go_enter Tryz.func288, Tryz.ntmps288
  go_wp2
  go_ret
  exact ⟨rfl, rfl⟩
set_option maxRecDepth 100000 in
set_option maxHeartbeats 400000 in
theorem reset_UInt8 (p : Nat) (e : TypeId) (sz : Nat) (w : World) (h : Hold w p 170 e sz none 0 0 []) : Calls Tryz.prog 285 #[.pointer (some ⟨p, 0, none⟩)] w fun ex w' => ex = .returned (.tuple #[]) ∧ Hold w' p 170 e sz none 0 0 [] ∧ Upd [p] w w' := by
  have hc := h.cell
  have hf := h.free
  go_enter Tryz.func285, Tryz.ntmps285
  go_wp2
  go_end0
  exact ⟨rfl, Hold.stored h.blk Row.nil (by simp), (Upd.refl _ _).setCell _ (by simp)⟩
set_option maxRecDepth 100000 in
set_option maxHeartbeats 400000 in
theorem rows_UInt16 (ao : Option Addr) (n c : Nat) (w : World) : Calls Tryz.prog 298 #[.slice ao n c] w fun e w' => e = .returned (.int .i64 n) ∧ w' = w := by
  go_enter Tryz.func298, Tryz.ntmps298
  go_wp2
  go_ret
  exact ⟨rfl, rfl⟩
set_option maxRecDepth 100000 in
set_option maxHeartbeats 400000 in
theorem type_UInt16 (v : Value) (w : World) : Calls Tryz.prog 299 #[v] w fun e w' => e = .returned (.string "UInt16".toUTF8) ∧ w' = w := by
  go_enter Tryz.func299, Tryz.ntmps299
  go_wp2
  go_ret
  exact ⟨rfl, rfl⟩
set_option maxRecDepth 100000 in
set_option maxHeartbeats 400000 in
theorem reset_UInt16 (p : Nat) (e : TypeId) (sz : Nat) (w : World) (h : Hold w p 179 e sz none 0 0 []) : Calls Tryz.prog 296 #[.pointer (some ⟨p, 0, none⟩)] w fun ex w' => ex = .returned (.tuple #[]) ∧ Hold w' p 179 e sz none 0 0 [] ∧ Upd [p] w w' := by
  have hc := h.cell
  have hf := h.free
  go_enter Tryz.func296, Tryz.ntmps296
  go_wp2
  go_end0
  exact ⟨rfl, Hold.stored h.blk Row.nil (by simp), (Upd.refl _ _).setCell _ (by simp)⟩
set_option maxRecDepth 100000 in
set_option maxHeartbeats 400000 in
theorem rows_UInt32 (ao : Option Addr) (n c : Nat) (w : World) : Calls Tryz.prog 309 #[.slice ao n c] w fun e w' => e = .returned (.int .i64 n) ∧ w' = w := by
  go_enter Tryz.func309, Tryz.ntmps309
  go_wp2
  go_ret
  exact ⟨rfl, rfl⟩
set_option maxRecDepth 100000 in
set_option maxHeartbeats 400000 in
theorem type_UInt32 (v : Value) (w : World) : Calls Tryz.prog 310 #[v] w fun e w' => e = .returned (.string "UInt32".toUTF8) ∧ w' = w := by
  go_enter Tryz.func310, Tryz.ntmps310
  go_wp2
  go_ret
  exact ⟨rfl, rfl⟩
set_option maxRecDepth 100000 in
set_option maxHeartbeats 400000 in
theorem reset_UInt32 (p : Nat) (e : TypeId) (sz : Nat) (w : World) (h : Hold w p 188 e sz none 0 0 []) : Calls Tryz.prog 307 #[.pointer (some ⟨p, 0, none⟩)] w fun ex w' => ex = .returned (.tuple #[]) ∧ Hold w' p 188 e sz none 0 0 [] ∧ Upd [p] w w' := by
  have hc := h.cell
  have hf := h.free
  go_enter Tryz.func307, Tryz.ntmps307
  go_wp2
  go_end0
  exact ⟨rfl, Hold.stored h.blk Row.nil (by simp), (Upd.refl _ _).setCell _ (by simp)⟩
set_option maxRecDepth 100000 in
set_option maxHeartbeats 400000 in
theorem rows_UInt64 (ao : Option Addr) (n c : Nat) (w : World) : Calls Tryz.prog 320 #[.slice ao n c] w fun e w' => e = .returned (.int .i64 n) ∧ w' = w := by
  go_enter Tryz.func320, Tryz.ntmps320
  go_wp2
  go_ret
  exact ⟨rfl, rfl⟩
set_option maxRecDepth 100000 in
set_option maxHeartbeats 400000 in
theorem type_UInt64 (v : Value) (w : World) : Calls Tryz.prog 321 #[v] w fun e w' => e = .returned (.string "UInt64".toUTF8) ∧ w' = w := by
  go_enter Tryz.func321, Tryz.ntmps321
  go_wp2
  go_ret
  exact ⟨rfl, rfl⟩
set_option maxRecDepth 100000 in
set_option maxHeartbeats 400000 in
theorem reset_UInt64 (p : Nat) (e : TypeId) (sz : Nat) (w : World) (h : Hold w p 197 e sz none 0 0 []) : Calls Tryz.prog 318 #[.pointer (some ⟨p, 0, none⟩)] w fun ex w' => ex = .returned (.tuple #[]) ∧ Hold w' p 197 e sz none 0 0 [] ∧ Upd [p] w w' := by
  have hc := h.cell
  have hf := h.free
  go_enter Tryz.func318, Tryz.ntmps318
  go_wp2
  go_end0
  exact ⟨rfl, Hold.stored h.blk Row.nil (by simp), (Upd.refl _ _).setCell _ (by simp)⟩
set_option maxRecDepth 100000 in
set_option maxHeartbeats 400000 in
theorem rows_UInt128 (ao : Option Addr) (n c : Nat) (w : World) : Calls Tryz.prog 332 #[.slice ao n c] w fun e w' => e = .returned (.int .i64 n) ∧ w' = w := by
  go_enter Tryz.func332, Tryz.ntmps332
  go_wp2
  go_ret
  exact ⟨rfl, rfl⟩
set_option maxRecDepth 100000 in
set_option maxHeartbeats 400000 in
theorem type_UInt128 (v : Value) (w : World) : Calls Tryz.prog 333 #[v] w fun e w' => e = .returned (.string "UInt128".toUTF8) ∧ w' = w := by
  go_enter Tryz.func333, Tryz.ntmps333
  go_wp2
  go_ret
  exact ⟨rfl, rfl⟩
set_option maxRecDepth 100000 in
set_option maxHeartbeats 400000 in
theorem reset_UInt128 (p : Nat) (e : TypeId) (sz : Nat) (w : World) (h : Hold w p 242 e sz none 0 0 []) : Calls Tryz.prog 330 #[.pointer (some ⟨p, 0, none⟩)] w fun ex w' => ex = .returned (.tuple #[]) ∧ Hold w' p 242 e sz none 0 0 [] ∧ Upd [p] w w' := by
  have hc := h.cell
  have hf := h.free
  go_enter Tryz.func330, Tryz.ntmps330
  go_wp2
  go_end0
  exact ⟨rfl, Hold.stored h.blk Row.nil (by simp), (Upd.refl _ _).setCell _ (by simp)⟩
set_option maxRecDepth 100000 in
set_option maxHeartbeats 400000 in
theorem rows_UInt256 (ao : Option Addr) (n c : Nat) (w : World) : Calls Tryz.prog 343 #[.slice ao n c] w fun e w' => e = .returned (.int .i64 n) ∧ w' = w := by
  go_enter Tryz.func343, Tryz.ntmps343
  go_wp2
  go_ret
  exact ⟨rfl, rfl⟩
set_option maxRecDepth 100000 in
set_option maxHeartbeats 400000 in
theorem type_UInt256 (v : Value) (w : World) : Calls Tryz.prog 344 #[v] w fun e w' => e = .returned (.string "UInt256".toUTF8) ∧ w' = w := by
  go_enter Tryz.func344, Tryz.ntmps344
  go_wp2
  go_ret
  exact ⟨rfl, rfl⟩
set_option maxRecDepth 100000 in
set_option maxHeartbeats 400000 in
theorem reset_UInt256 (p : Nat) (e : TypeId) (sz : Nat) (w : World) (h : Hold w p 250 e sz none 0 0 []) : Calls Tryz.prog 341 #[.pointer (some ⟨p, 0, none⟩)] w fun ex w' => ex = .returned (.tuple #[]) ∧ Hold w' p 250 e sz none 0 0 [] ∧ Upd [p] w w' := by
  have hc := h.cell
  have hf := h.free
  go_enter Tryz.func341, Tryz.ntmps341
  go_wp2
  go_end0
  exact ⟨rfl, Hold.stored h.blk Row.nil (by simp), (Upd.refl _ _).setCell _ (by simp)⟩
set_option maxRecDepth 100000 in
set_option maxHeartbeats 400000 in
theorem rows_Float32 (ao : Option Addr) (n c : Nat) (w : World) : Calls Tryz.prog 354 #[.slice ao n c] w fun e w' => e = .returned (.int .i64 n) ∧ w' = w := by
  go_enter Tryz.func354, Tryz.ntmps354
  go_wp2
  go_ret
  exact ⟨rfl, rfl⟩
set_option maxRecDepth 100000 in
set_option maxHeartbeats 400000 in
theorem type_Float32 (v : Value) (w : World) : Calls Tryz.prog 355 #[v] w fun e w' => e = .returned (.string "Float32".toUTF8) ∧ w' = w := by
  go_enter Tryz.func355, Tryz.ntmps355
  go_wp2
  go_ret
  exact ⟨rfl, rfl⟩
set_option maxRecDepth 100000 in
set_option maxHeartbeats 400000 in
theorem reset_Float32 (p : Nat) (e : TypeId) (sz : Nat) (w : World) (h : Hold w p 260 e sz none 0 0 []) : Calls Tryz.prog 352 #[.pointer (some ⟨p, 0, none⟩)] w fun ex w' => ex = .returned (.tuple #[]) ∧ Hold w' p 260 e sz none 0 0 [] ∧ Upd [p] w w' := by
  have hc := h.cell
  have hf := h.free
  go_enter Tryz.func352, Tryz.ntmps352
  go_wp2
  go_end0
  exact ⟨rfl, Hold.stored h.blk Row.nil (by simp), (Upd.refl _ _).setCell _ (by simp)⟩
set_option maxRecDepth 100000 in
set_option maxHeartbeats 400000 in
theorem rows_Float64 (ao : Option Addr) (n c : Nat) (w : World) : Calls Tryz.prog 365 #[.slice ao n c] w fun e w' => e = .returned (.int .i64 n) ∧ w' = w := by
  go_enter Tryz.func365, Tryz.ntmps365
  go_wp2
  go_ret
  exact ⟨rfl, rfl⟩
set_option maxRecDepth 100000 in
set_option maxHeartbeats 400000 in
theorem type_Float64 (v : Value) (w : World) : Calls Tryz.prog 366 #[v] w fun e w' => e = .returned (.string "Float64".toUTF8) ∧ w' = w := by
  go_enter Tryz.func366, Tryz.ntmps366
  go_wp2
  go_ret
  exact ⟨rfl, rfl⟩
set_option maxRecDepth 100000 in
set_option maxHeartbeats 400000 in
theorem reset_Float64 (p : Nat) (e : TypeId) (sz : Nat) (w : World) (h : Hold w p 269 e sz none 0 0 []) : Calls Tryz.prog 363 #[.pointer (some ⟨p, 0, none⟩)] w fun ex w' => ex = .returned (.tuple #[]) ∧ Hold w' p 269 e sz none 0 0 [] ∧ Upd [p] w w' := by
  have hc := h.cell
  have hf := h.free
  go_enter Tryz.func363, Tryz.ntmps363
  go_wp2
  go_end0
  exact ⟨rfl, Hold.stored h.blk Row.nil (by simp), (Upd.refl _ _).setCell _ (by simp)⟩
set_option maxRecDepth 100000 in
set_option maxHeartbeats 400000 in
theorem rows_BFloat16 (ao : Option Addr) (n c : Nat) (w : World) : Calls Tryz.prog 377 #[.slice ao n c] w fun e w' => e = .returned (.int .i64 n) ∧ w' = w := by
  go_enter Tryz.func377, Tryz.ntmps377
  go_wp2
  go_ret
  exact ⟨rfl, rfl⟩
set_option maxRecDepth 100000 in
set_option maxHeartbeats 400000 in
theorem type_BFloat16 (v : Value) (w : World) : Calls Tryz.prog 378 #[v] w fun e w' => e = .returned (.string "BFloat16".toUTF8) ∧ w' = w := by
  go_enter Tryz.func378, Tryz.ntmps378
  go_wp2
  go_ret
  exact ⟨rfl, rfl⟩
set_option maxRecDepth 100000 in
set_option maxHeartbeats 400000 in
theorem reset_BFloat16 (p : Nat) (e : TypeId) (sz : Nat) (w : World) (h : Hold w p 280 e sz none 0 0 []) : Calls Tryz.prog 375 #[.pointer (some ⟨p, 0, none⟩)] w fun ex w' => ex = .returned (.tuple #[]) ∧ Hold w' p 280 e sz none 0 0 [] ∧ Upd [p] w w' := by
  have hc := h.cell
  have hf := h.free
  go_enter Tryz.func375, Tryz.ntmps375
  go_wp2
  go_end0
  exact ⟨rfl, Hold.stored h.blk Row.nil (by simp), (Upd.refl _ _).setCell _ (by simp)⟩
set_option maxRecDepth 100000 in
set_option maxHeartbeats 400000 in
theorem rows_Bool (ao : Option Addr) (n c : Nat) (w : World) : Calls Tryz.prog 387 #[.slice ao n c] w fun e w' => e = .returned (.int .i64 n) ∧ w' = w := by
  go_enter Tryz.func387, Tryz.ntmps387
  go_wp2
  go_ret
  exact ⟨rfl, rfl⟩
set_option maxRecDepth 100000 in
set_option maxHeartbeats 400000 in
theorem type_Bool (v : Value) (w : World) : Calls Tryz.prog 388 #[v] w fun e w' => e = .returned (.string "Bool".toUTF8) ∧ w' = w := by
  go_enter Tryz.func388, Tryz.ntmps388
  go_wp2
  go_ret
  exact ⟨rfl, rfl⟩
set_option maxRecDepth 100000 in
set_option maxHeartbeats 400000 in
theorem reset_Bool (p : Nat) (e : TypeId) (sz : Nat) (w : World) (h : Hold w p 283 e sz none 0 0 []) : Calls Tryz.prog 385 #[.pointer (some ⟨p, 0, none⟩)] w fun ex w' => ex = .returned (.tuple #[]) ∧ Hold w' p 283 e sz none 0 0 [] ∧ Upd [p] w w' := by
  have hc := h.cell
  have hf := h.free
  go_enter Tryz.func385, Tryz.ntmps385
  go_wp2
  go_end0
  exact ⟨rfl, Hold.stored h.blk Row.nil (by simp), (Upd.refl _ _).setCell _ (by simp)⟩
set_option maxRecDepth 100000 in
set_option maxHeartbeats 400000 in
theorem rows_IPv4 (ao : Option Addr) (n c : Nat) (w : World) : Calls Tryz.prog 399 #[.slice ao n c] w fun e w' => e = .returned (.int .i64 n) ∧ w' = w := by
  go_enter Tryz.func399, Tryz.ntmps399
  go_wp2
  go_ret
  exact ⟨rfl, rfl⟩
set_option maxRecDepth 100000 in
set_option maxHeartbeats 400000 in
theorem type_IPv4 (v : Value) (w : World) : Calls Tryz.prog 400 #[v] w fun e w' => e = .returned (.string "IPv4".toUTF8) ∧ w' = w := by
  go_enter Tryz.func400, Tryz.ntmps400
  go_wp2
  go_ret
  exact ⟨rfl, rfl⟩
set_option maxRecDepth 100000 in
set_option maxHeartbeats 400000 in
theorem reset_IPv4 (p : Nat) (e : TypeId) (sz : Nat) (w : World) (h : Hold w p 291 e sz none 0 0 []) : Calls Tryz.prog 397 #[.pointer (some ⟨p, 0, none⟩)] w fun ex w' => ex = .returned (.tuple #[]) ∧ Hold w' p 291 e sz none 0 0 [] ∧ Upd [p] w w' := by
  have hc := h.cell
  have hf := h.free
  go_enter Tryz.func397, Tryz.ntmps397
  go_wp2
  go_end0
  exact ⟨rfl, Hold.stored h.blk Row.nil (by simp), (Upd.refl _ _).setCell _ (by simp)⟩
set_option maxRecDepth 100000 in
set_option maxHeartbeats 400000 in
theorem rows_IPv6 (ao : Option Addr) (n c : Nat) (w : World) : Calls Tryz.prog 410 #[.slice ao n c] w fun e w' => e = .returned (.int .i64 n) ∧ w' = w := by
  go_enter Tryz.func410, Tryz.ntmps410
  go_wp2
  go_ret
  exact ⟨rfl, rfl⟩
set_option maxRecDepth 100000 in
set_option maxHeartbeats 400000 in
theorem type_IPv6 (v : Value) (w : World) : Calls Tryz.prog 411 #[v] w fun e w' => e = .returned (.string "IPv6".toUTF8) ∧ w' = w := by
  go_enter Tryz.func411, Tryz.ntmps411
  go_wp2
  go_ret
  exact ⟨rfl, rfl⟩
set_option maxRecDepth 100000 in
set_option maxHeartbeats 400000 in
theorem reset_IPv6 (p : Nat) (e : TypeId) (sz : Nat) (w : World) (h : Hold w p 301 e sz none 0 0 []) : Calls Tryz.prog 408 #[.pointer (some ⟨p, 0, none⟩)] w fun ex w' => ex = .returned (.tuple #[]) ∧ Hold w' p 301 e sz none 0 0 [] ∧ Upd [p] w w' := by
  have hc := h.cell
  have hf := h.free
  go_enter Tryz.func408, Tryz.ntmps408
  go_wp2
  go_end0
  exact ⟨rfl, Hold.stored h.blk Row.nil (by simp), (Upd.refl _ _).setCell _ (by simp)⟩
set_option maxRecDepth 100000 in
set_option maxHeartbeats 400000 in
theorem row_Int8 (g n c i : Nat) (v : Value) (w : World) (h : w.cell? ⟨g, i, none⟩ = some v) (hi : i < n) : Calls Tryz.prog 464 #[.slice (some ⟨g, 0, none⟩) n c, .int .i64 i] w fun e w' => e = .returned v ∧ Upd [] w w' := by
  have hk0 : ((i : Int) < n) := by omega
  go_enter Tryz.func464, Tryz.ntmps464
  go_wp2
  go_ret
  exact ⟨rfl, Upd.refl _ _⟩
set_option maxRecDepth 100000 in
set_option maxHeartbeats 400000 in
theorem row_Int16 (g n c i : Nat) (v : Value) (w : World) (h : w.cell? ⟨g, i, none⟩ = some v) (hi : i < n) : Calls Tryz.prog 221 #[.slice (some ⟨g, 0, none⟩) n c, .int .i64 i] w fun e w' => e = .returned v ∧ Upd [] w w' := by
  have hk0 : ((i : Int) < n) := by omega
  go_enter Tryz.func221, Tryz.ntmps221
  go_wp2
  go_ret
  exact ⟨rfl, Upd.refl _ _⟩
set_option maxRecDepth 100000 in
set_option maxHeartbeats 400000 in
theorem row_Int32 (g n c i : Nat) (v : Value) (w : World) (h : w.cell? ⟨g, i, none⟩ = some v) (hi : i < n) : Calls Tryz.prog 234 #[.slice (some ⟨g, 0, none⟩) n c, .int .i64 i] w fun e w' => e = .returned v ∧ Upd [] w w' := by
  have hk0 : ((i : Int) < n) := by omega
  go_enter Tryz.func234, Tryz.ntmps234
  go_wp2
  go_ret
  exact ⟨rfl, Upd.refl _ _⟩
set_option maxRecDepth 100000 in
set_option maxHeartbeats 400000 in
theorem row_Int64 (g n c i : Nat) (v : Value) (w : World) (h : w.cell? ⟨g, i, none⟩ = some v) (hi : i < n) : Calls Tryz.prog 245 #[.slice (some ⟨g, 0, none⟩) n c, .int .i64 i] w fun e w' => e = .returned v ∧ Upd [] w w' := by
  have hk0 : ((i : Int) < n) := by omega
  go_enter Tryz.func245, Tryz.ntmps245
  go_wp2
  go_ret
  exact ⟨rfl, Upd.refl _ _⟩
set_option maxRecDepth 100000 in
set_option maxHeartbeats 400000 in
theorem row_UInt8 (g n c i : Nat) (v : Value) (w : World) (h : w.cell? ⟨g, i, none⟩ = some v) (hi : i < n) : Calls Tryz.prog 286 #[.slice (some ⟨g, 0, none⟩) n c, .int .i64 i] w fun e w' => e = .returned v ∧ Upd [] w w' := by
  have hk0 : ((i : Int) < n) := by omega
  go_enter Tryz.func286, Tryz.ntmps286
  go_wp2
  go_ret
  exact ⟨rfl, Upd.refl _ _⟩
set_option maxRecDepth 100000 in
set_option maxHeartbeats 400000 in
theorem row_UInt16 (g n c i : Nat) (v : Value) (w : World) (h : w.cell? ⟨g, i, none⟩ = some v) (hi : i < n) : Calls Tryz.prog 297 #[.slice (some ⟨g, 0, none⟩) n c, .int .i64 i] w fun e w' => e = .returned v ∧ Upd [] w w' := by
  have hk0 : ((i : Int) < n) := by omega
  go_enter Tryz.func297, Tryz.ntmps297
  go_wp2
  go_ret
  exact ⟨rfl, Upd.refl _ _⟩
set_option maxRecDepth 100000 in
set_option maxHeartbeats 400000 in
theorem row_UInt32 (g n c i : Nat) (v : Value) (w : World) (h : w.cell? ⟨g, i, none⟩ = some v) (hi : i < n) : Calls Tryz.prog 308 #[.slice (some ⟨g, 0, none⟩) n c, .int .i64 i] w fun e w' => e = .returned v ∧ Upd [] w w' := by
  have hk0 : ((i : Int) < n) := by omega
  go_enter Tryz.func308, Tryz.ntmps308
  go_wp2
  go_ret
  exact ⟨rfl, Upd.refl _ _⟩
set_option maxRecDepth 100000 in
set_option maxHeartbeats 400000 in
theorem row_UInt64 (g n c i : Nat) (v : Value) (w : World) (h : w.cell? ⟨g, i, none⟩ = some v) (hi : i < n) : Calls Tryz.prog 319 #[.slice (some ⟨g, 0, none⟩) n c, .int .i64 i] w fun e w' => e = .returned v ∧ Upd [] w w' := by
  have hk0 : ((i : Int) < n) := by omega
  go_enter Tryz.func319, Tryz.ntmps319
  go_wp2
  go_ret
  exact ⟨rfl, Upd.refl _ _⟩
set_option maxRecDepth 100000 in
set_option maxHeartbeats 400000 in
theorem row_Float32 (g n c i : Nat) (v : Value) (w : World) (h : w.cell? ⟨g, i, none⟩ = some v) (hi : i < n) : Calls Tryz.prog 353 #[.slice (some ⟨g, 0, none⟩) n c, .int .i64 i] w fun e w' => e = .returned v ∧ Upd [] w w' := by
  have hk0 : ((i : Int) < n) := by omega
  go_enter Tryz.func353, Tryz.ntmps353
  go_wp2
  go_ret
  exact ⟨rfl, Upd.refl _ _⟩
set_option maxRecDepth 100000 in
set_option maxHeartbeats 400000 in
theorem row_Float64 (g n c i : Nat) (v : Value) (w : World) (h : w.cell? ⟨g, i, none⟩ = some v) (hi : i < n) : Calls Tryz.prog 364 #[.slice (some ⟨g, 0, none⟩) n c, .int .i64 i] w fun e w' => e = .returned v ∧ Upd [] w w' := by
  have hk0 : ((i : Int) < n) := by omega
  go_enter Tryz.func364, Tryz.ntmps364
  go_wp2
  go_ret
  exact ⟨rfl, Upd.refl _ _⟩
set_option maxRecDepth 100000 in
set_option maxHeartbeats 400000 in
theorem row_Bool (g n c i : Nat) (v : Value) (w : World) (h : w.cell? ⟨g, i, none⟩ = some v) (hi : i < n) : Calls Tryz.prog 386 #[.slice (some ⟨g, 0, none⟩) n c, .int .i64 i] w fun e w' => e = .returned v ∧ Upd [] w w' := by
  have hk0 : ((i : Int) < n) := by omega
  go_enter Tryz.func386, Tryz.ntmps386
  go_wp2
  go_ret
  exact ⟨rfl, Upd.refl _ _⟩
set_option maxRecDepth 100000 in
set_option maxHeartbeats 400000 in
theorem row_IPv4 (g n c i : Nat) (v : Value) (w : World) (h : w.cell? ⟨g, i, none⟩ = some v) (hi : i < n) : Calls Tryz.prog 398 #[.slice (some ⟨g, 0, none⟩) n c, .int .i64 i] w fun e w' => e = .returned v ∧ Upd [] w w' := by
  have hk0 : ((i : Int) < n) := by omega
  go_enter Tryz.func398, Tryz.ntmps398
  go_wp2
  go_ret
  exact ⟨rfl, Upd.refl _ _⟩
set_option maxRecDepth 100000 in
set_option maxHeartbeats 400000 in
theorem row_Int128 (g n c i : Nat) (cs : List Value) (w : World) (h : w.rangeAt g (i * 2) cs) (hl : cs.length = 2) (h1 : ∀ u ∈ cs, u.oneCell' = true) (hg : g < w.heap.size) (hi : i < n) : Calls Tryz.prog 258 #[.slice (some ⟨g, 0, none⟩) n c, .int .i64 i] w fun e w' => e = .returned (.agg cs.toArray) ∧ Upd [] w w' := by
  have hk0 : ((i : Int) < n) := by omega
  have hs : (Tryz.prog.info? 148).map (·.size) = some cs.length := by rw [hl]; kernel_rfl
  go_enter Tryz.func258, Tryz.ntmps258
  have hk1 := heap_alloc_new w
  have hu1 := fun o => (Upd.refl [] w).alloc o
  go_wp2_with (first
    | ((with_reducible show wpList _ _ _ _ _ _); with_reducible refine wpList_load_mid rfl 148 (.tmp 7) rfl g (i * 2) rfl cs _ ((hu1 _).range h hg (by simp)) Tryz.underlying148 rfl hs ?_)
    | ((with_reducible show wpList _ _ _ _ _ _); refine wpList_store_blk rfl 148 (.tmp 4) (.tmp 8) rfl (b := w.heap.size) rfl (hk1 _) (cs := cs) rfl (by rw [hl]; rfl) hs h1 ?_; intro w4 hb4 hu4; simp only [Act.put]))
  refine bodyPost_ret (results_cell1 Tryz.results258 (b := w.heap.size) rfl (run_loadVar_mid _ w.heap.size 0 148 cs _ (rangeAt_blk hb4) Tryz.underlying148 rfl hs)) rfl ⟨rfl, ?_⟩
  exact (hu1 _).trans hu4 (fun y hy => by simp at hy; exact .inr (by omega))
set_option maxRecDepth 100000 in
set_option maxHeartbeats 400000 in
theorem row_UInt128 (g n c i : Nat) (cs : List Value) (w : World) (h : w.rangeAt g (i * 2) cs) (hl : cs.length = 2) (h1 : ∀ u ∈ cs, u.oneCell' = true) (hg : g < w.heap.size) (hi : i < n) : Calls Tryz.prog 331 #[.slice (some ⟨g, 0, none⟩) n c, .int .i64 i] w fun e w' => e = .returned (.agg cs.toArray) ∧ Upd [] w w' := by
  have hk0 : ((i : Int) < n) := by omega
  have hs : (Tryz.prog.info? 149).map (·.size) = some cs.length := by rw [hl]; kernel_rfl
  go_enter Tryz.func331, Tryz.ntmps331
  have hk1 := heap_alloc_new w
  have hu1 := fun o => (Upd.refl [] w).alloc o
  go_wp2_with (first
    | ((with_reducible show wpList _ _ _ _ _ _); with_reducible refine wpList_load_mid rfl 149 (.tmp 7) rfl g (i * 2) rfl cs _ ((hu1 _).range h hg (by simp)) Tryz.underlying149 rfl hs ?_)
    | ((with_reducible show wpList _ _ _ _ _ _); refine wpList_store_blk rfl 149 (.tmp 4) (.tmp 8) rfl (b := w.heap.size) rfl (hk1 _) (cs := cs) rfl (by rw [hl]; rfl) hs h1 ?_; intro w4 hb4 hu4; simp only [Act.put]))
  refine bodyPost_ret (results_cell1 Tryz.results331 (b := w.heap.size) rfl (run_loadVar_mid _ w.heap.size 0 149 cs _ (rangeAt_blk hb4) Tryz.underlying149 rfl hs)) rfl ⟨rfl, ?_⟩
  exact (hu1 _).trans hu4 (fun y hy => by simp at hy; exact .inr (by omega))
set_option maxRecDepth 100000 in
set_option maxHeartbeats 400000 in
theorem row_Int256 (g n c i : Nat) (cs : List Value) (w : World) (h : w.rangeAt g (i * 4) cs) (hl : cs.length = 4) (h1 : ∀ u ∈ cs, u.oneCell' = true) (hg : g < w.heap.size) (hi : i < n) : Calls Tryz.prog 273 #[.slice (some ⟨g, 0, none⟩) n c, .int .i64 i] w fun e w' => e = .returned (.agg cs.toArray) ∧ Upd [] w w' := by
  have hk0 : ((i : Int) < n) := by omega
  have hs : (Tryz.prog.info? 162).map (·.size) = some cs.length := by rw [hl]; kernel_rfl
  go_enter Tryz.func273, Tryz.ntmps273
  have hk1 := heap_alloc_new w
  have hu1 := fun o => (Upd.refl [] w).alloc o
  go_wp2_with (first
    | ((with_reducible show wpList _ _ _ _ _ _); with_reducible refine wpList_load_mid rfl 162 (.tmp 7) rfl g (i * 4) rfl cs _ ((hu1 _).range h hg (by simp)) Tryz.underlying162 rfl hs ?_)
    | ((with_reducible show wpList _ _ _ _ _ _); refine wpList_store_blk rfl 162 (.tmp 4) (.tmp 8) rfl (b := w.heap.size) rfl (hk1 _) (cs := cs) rfl (by rw [hl]; rfl) hs h1 ?_; intro w4 hb4 hu4; simp only [Act.put]))
  refine bodyPost_ret (results_cell1 Tryz.results273 (b := w.heap.size) rfl (run_loadVar_mid _ w.heap.size 0 162 cs _ (rangeAt_blk hb4) Tryz.underlying162 rfl hs)) rfl ⟨rfl, ?_⟩
  exact (hu1 _).trans hu4 (fun y hy => by simp at hy; exact .inr (by omega))
set_option maxRecDepth 100000 in
set_option maxHeartbeats 400000 in
theorem row_UInt256 (g n c i : Nat) (cs : List Value) (w : World) (h : w.rangeAt g (i * 4) cs) (hl : cs.length = 4) (h1 : ∀ u ∈ cs, u.oneCell' = true) (hg : g < w.heap.size) (hi : i < n) : Calls Tryz.prog 342 #[.slice (some ⟨g, 0, none⟩) n c, .int .i64 i] w fun e w' => e = .returned (.agg cs.toArray) ∧ Upd [] w w' := by
  have hk0 : ((i : Int) < n) := by omega
  have hs : (Tryz.prog.info? 251).map (·.size) = some cs.length := by rw [hl]; kernel_rfl
  go_enter Tryz.func342, Tryz.ntmps342
  have hk1 := heap_alloc_new w
  have hu1 := fun o => (Upd.refl [] w).alloc o
  go_wp2_with (first
    | ((with_reducible show wpList _ _ _ _ _ _); with_reducible refine wpList_load_mid rfl 251 (.tmp 7) rfl g (i * 4) rfl cs _ ((hu1 _).range h hg (by simp)) Tryz.underlying251 rfl hs ?_)
    | ((with_reducible show wpList _ _ _ _ _ _); refine wpList_store_blk rfl 251 (.tmp 4) (.tmp 8) rfl (b := w.heap.size) rfl (hk1 _) (cs := cs) rfl (by rw [hl]; rfl) hs h1 ?_; intro w4 hb4 hu4; simp only [Act.put]))
  refine bodyPost_ret (results_cell1 Tryz.results342 (b := w.heap.size) rfl (run_loadVar_mid _ w.heap.size 0 251 cs _ (rangeAt_blk hb4) Tryz.underlying251 rfl hs)) rfl ⟨rfl, ?_⟩
  exact (hu1 _).trans hu4 (fun y hy => by simp at hy; exact .inr (by omega))
set_option maxRecDepth 100000 in
set_option maxHeartbeats 400000 in
theorem row_IPv6 (g n c i : Nat) (cs : List Value) (w : World) (h : w.rangeAt g (i * 16) cs) (hl : cs.length = 16) (h1 : ∀ u ∈ cs, u.oneCell' = true) (hg : g < w.heap.size) (hi : i < n) : Calls Tryz.prog 409 #[.slice (some ⟨g, 0, none⟩) n c, .int .i64 i] w fun e w' => e = .returned (.agg cs.toArray) ∧ Upd [] w w' := by
  have hk0 : ((i : Int) < n) := by omega
  have hs : (Tryz.prog.info? 303).map (·.size) = some cs.length := by rw [hl]; kernel_rfl
  go_enter Tryz.func409, Tryz.ntmps409
  have hk1 := heap_alloc_new w
  have hu1 := fun o => (Upd.refl [] w).alloc o
  go_wp2_with (first
    | ((with_reducible show wpList _ _ _ _ _ _); with_reducible refine wpList_load_mid rfl 303 (.tmp 7) rfl g (i * 16) rfl cs _ ((hu1 _).range h hg (by simp)) Tryz.underlying303 rfl hs ?_)
    | ((with_reducible show wpList _ _ _ _ _ _); refine wpList_store_blk rfl 303 (.tmp 4) (.tmp 8) rfl (b := w.heap.size) rfl (hk1 _) (cs := cs) rfl (by rw [hl]; rfl) hs h1 ?_; intro w4 hb4 hu4; simp only [Act.put]))
  refine bodyPost_ret (results_cell1 Tryz.results409 (b := w.heap.size) rfl (run_loadVar_mid _ w.heap.size 0 303 cs _ (rangeAt_blk hb4) Tryz.underlying303 rfl hs)) rfl ⟨rfl, ?_⟩
  exact (hu1 _).trans hu4 (fun y hy => by simp at hy; exact .inr (by omega))
set_option maxRecDepth 100000 in
set_option maxHeartbeats 400000 in
theorem row_BFloat16 (g n c i : Nat) (x : Int) (hx : 0 ≤ x ∧ x < 65536) (w : World) (h : w.cell? ⟨g, i, none⟩ = some (.int .u16 x)) (hi : i < n) : Calls Tryz.prog 376 #[.slice (some ⟨g, 0, none⟩) n c, .int .i64 i] w fun e w' => e = .returned (.float .f32 (x * 65536).toNat) ∧ Upd [] w w' := by
  have hk0 : ((i : Int) < n) := by omega
  go_enter Tryz.func376, Tryz.ntmps376
  go_wp2_with (go_at_call 381; (refine (ofBF x hx _).mono ?_); rintro e w2 ⟨rfl, rfl⟩)
  go_ret
  exact ⟨rfl, Upd.refl _ _⟩
set_option maxRecDepth 100000 in
set_option maxHeartbeats 1000000 in
theorem out_ipx (x0 x1 x2 x3 x4 x5 x6 x7 y0 y1 y2 y3 y4 y5 y6 y7 : Int) (hx : ∀ x ∈ [x0, x1, x2, x3, x4, x5, x6, x7, y0, y1, y2, y3, y4, y5, y6, y7], 0 ≤ x ∧ x < 256) (w : World) :
    Calls Tryz.prog 99 #[.agg (([x0, x1, x2, x3, x4, x5, x6, x7, y0, y1, y2, y3, y4, y5, y6, y7] : List Int).map (Value.int .u8)).toArray] w fun e w' => e = .returned (R4.agg ⟨psum [x0, x1, x2, x3, x4, x5, x6, x7] 8, psum [y0, y1, y2, y3, y4, y5, y6, y7] 8, 0, 0⟩) ∧ Upd [] w w' := by
  have hrow := row16 x0 x1 x2 x3 x4 x5 x6 x7 y0 y1 y2 y3 y4 y5 y6 y7 hx
  obtain ⟨A, hA⟩ : ∃ A, A = psum [x0, x1, x2, x3, x4, x5, x6, x7] 8 := ⟨_, rfl⟩
  obtain ⟨B, hB⟩ : ∃ B, B = psum [y0, y1, y2, y3, y4, y5, y6, y7] 8 := ⟨_, rfl⟩
  rw [← hA, ← hB] at hrow ⊢
  clear hA hB
  simp only [List.map_cons, List.map_nil, R4.agg] at hrow ⊢
  obtain ⟨k1, u1, s1⟩ := alloc_facts w (Obj.cells #[.int .u8 x0, .int .u8 x1, .int .u8 x2, .int .u8 x3, .int .u8 x4, .int .u8 x5, .int .u8 x6, .int .u8 x7, .int .u8 y0, .int .u8 y1, .int .u8 y2, .int .u8 y3, .int .u8 y4, .int .u8 y5, .int .u8 y6, .int .u8 y7] 303)
  obtain ⟨k2, u2, s2⟩ := alloc_facts (w.alloc (Obj.cells #[.int .u8 x0, .int .u8 x1, .int .u8 x2, .int .u8 x3, .int .u8 x4, .int .u8 x5, .int .u8 x6, .int .u8 x7, .int .u8 y0, .int .u8 y1, .int .u8 y2, .int .u8 y3, .int .u8 y4, .int .u8 y5, .int .u8 y6, .int .u8 y7] 303)) (Obj.cells #[.int .u64 0, .int .u64 0, .int .u64 0, .int .u64 0] 69)
  have r1 := rangeAt_blk (cs := [.int .u8 x0, .int .u8 x1, .int .u8 x2, .int .u8 x3, .int .u8 x4, .int .u8 x5, .int .u8 x6, .int .u8 x7, .int .u8 y0, .int .u8 y1, .int .u8 y2, .int .u8 y3, .int .u8 y4, .int .u8 y5, .int .u8 y6, .int .u8 y7]) (u2.at k1 (by simp))
  rw [s1] at k2
  go_enter Tryz.func99, Tryz.ntmps99
  go_wp2_with (first
    | ((with_reducible show wpList _ _ _ _ _ _); with_reducible refine wpList_load_mid rfl 303 (.tmp 1) rfl w.heap.size 0 rfl [.int .u8 x0, .int .u8 x1, .int .u8 x2, .int .u8 x3, .int .u8 x4, .int .u8 x5, .int .u8 x6, .int .u8 x7, .int .u8 y0, .int .u8 y1, .int .u8 y2, .int .u8 y3, .int .u8 y4, .int .u8 y5, .int .u8 y6, .int .u8 y7] _ r1 Tryz.underlying303 rfl (by kernel_rfl) ?_)
    | (go_at_call 100; (refine (hrow _).mono ?_); rintro e w2 ⟨rfl, hu2⟩; have k3 := hu2.at k2 (by simp))
    | ((with_reducible show wpList _ _ _ _ _ _); refine wpList_store_blk rfl 69 (.tmp 2) (.tmp 4) rfl (b := w.heap.size + 1) rfl k3 (cs := [.int .u64 A, .int .u64 B, .int .u64 0, .int .u64 0]) rfl rfl (by kernel_rfl) (by simp [Value.oneCell']) ?_; intro w4 hb4 hu4; simp only [Act.put]))
  refine bodyPost_ret (results_cell1 Tryz.results99 (b := w.heap.size + 1) rfl (run_loadVar_mid _ (w.heap.size + 1) 0 69 [.int .u64 A, .int .u64 B, .int .u64 0, .int .u64 0] _ (rangeAt_blk hb4) Tryz.underlying69 rfl (by kernel_rfl))) rfl ⟨rfl, ?_⟩
  exact ((u1.trans u2 (fun _ h => .inl h)).trans hu2 (fun _ h => .inl h)).trans hu4 (fun y hy => by simp at hy; exact .inr (by omega))
theorem psum8 (a : Int) (h : 0 ≤ a ∧ a < 18446744073709551616) : psum [byteAt a 0, byteAt a 1, byteAt a 2, byteAt a 3, byteAt a 4, byteAt a 5, byteAt a 6, byteAt a 7] 8 = a := by
  simp only [psum, byteAt]
  omega
theorem lowV16 (a b : Int) : lowV a b 16 = (([byteAt a 0, byteAt a 1, byteAt a 2, byteAt a 3, byteAt a 4, byteAt a 5, byteAt a 6, byteAt a 7] ++ [byteAt b 0, byteAt b 1, byteAt b 2, byteAt b 3, byteAt b 4, byteAt b 5, byteAt b 6, byteAt b 7] : List Int)).map (Value.int .u8) := rfl
theorem out_ip (a b : Int) (ha : 0 ≤ a ∧ a < 18446744073709551616) (hb : 0 ≤ b ∧ b < 18446744073709551616) (w : World) :
    Calls Tryz.prog 99 #[.agg (lowV a b 16).toArray] w fun e w' => e = .returned (R4.agg ⟨a, b, 0, 0⟩) ∧ Upd [] w w' := by
  have h := out_ipx (byteAt a 0) (byteAt a 1) (byteAt a 2) (byteAt a 3) (byteAt a 4) (byteAt a 5) (byteAt a 6) (byteAt a 7) (byteAt b 0) (byteAt b 1) (byteAt b 2) (byteAt b 3) (byteAt b 4) (byteAt b 5) (byteAt b 6) (byteAt b 7) (by
    intro x hx
    simp only [List.mem_cons, List.not_mem_nil, or_false] at hx
    rcases hx with rfl | rfl | rfl | rfl | rfl | rfl | rfl | rfl | rfl | rfl | rfl | rfl | rfl | rfl | rfl | rfl <;> exact byteAt_range _ _) w
  rw [psum8 a ha, psum8 b hb] at h
  exact h
end Go.Proofs.YtjhfjifeeomciaaGreatDoor
