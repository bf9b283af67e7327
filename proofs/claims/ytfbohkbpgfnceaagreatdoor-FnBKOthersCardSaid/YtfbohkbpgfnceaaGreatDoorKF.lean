/- The values of each kind: what a row becomes, what a column holds of it, what comes out. -/
import Derived.Test.YtfbohkbpgfnceaaGreatDoorKE
namespace Go.Proofs.YtfbohkbpgfnceaaGreatDoor
set_option linter.unusedVariables false
set_option linter.unusedSimpArgs false
open Go Go.RowKit
theorem wrap_i8 (x : Int) : IntKind.i8.wrap x = (x + 128) % 256 - 128 := by simp [IntKind.wrap, IntKind.bits, IntKind.signed]; split <;> omega
theorem wrap_i16 (x : Int) : IntKind.i16.wrap x = (x + 32768) % 65536 - 32768 := by simp [IntKind.wrap, IntKind.bits, IntKind.signed]; split <;> omega
theorem wrap_u8 (x : Int) : IntKind.u8.wrap x = x % 256 := by simp [IntKind.wrap, IntKind.bits, IntKind.signed]
theorem cell_of_range {w : World} {g i : Nat} {v : Value} (h : w.rangeAt g (i * 1) [v]) : w.cell? ⟨g, i, none⟩ = some v := by
  have := h 0 v rfl
  simpa using this
/-- the column over the variable p -/
def V_i8 (p : Nat) : Value := .agg #[.iface 100 (.pointer (some ⟨p, 0, none⟩)), .func (Fn.func 36) #[] #[], .func (Fn.func 37) #[] #[]]
def val_i8 (r : R4) : Value := .int .i8 (IntKind.i8.wrap r.a)
def cells_i8 (r : R4) : List Value := [.int .i8 (IntKind.i8.wrap r.a)]
def back_i8 (r : R4) : Value := val_i8 r
def kept_i8 (r : R4) : R4 := one4 ((IntKind.i8.wrap r.a) % 256)
def bytes_i8 (r : R4) : List Value := [.int .u8 (IntKind.u8.wrap (IntKind.i8.wrap r.a))]
theorem vin_i8 (r : R4) (w : World) : Calls Tryz.prog 36 #[r.agg] w fun e w' => e = .returned (val_i8 r) ∧ Upd [] w w' := in_i8 r w
theorem vout_i8 (r : R4) (hr : Ok4 r) (w : World) : Calls Tryz.prog 37 #[back_i8 r] w fun e w' => e = .returned (kept_i8 r).agg ∧ Upd [] w w' := out_i8 _ (by rw [wrap_i8]; omega) w
theorem vapp_i8 (p : Nat) (ao : Option Addr) (n c : Nat) (xs : List Value) (r : R4) (w : World) (h : Hold w p 102 103 1 ao n c xs) (hn : n ≤ 1000000) :
    Calls Tryz.prog 454 #[.pointer (some ⟨p, 0, none⟩), val_i8 r] w fun e w' => e = .returned (.tuple #[]) ∧ Grew w w' p 102 103 1 ao (n + 1) (xs ++ cells_i8 r) := ColInt8_Append p ao n c xs _ w h hn
theorem vrow_i8 (g n c i : Nat) (r : R4) (w : World) (h : w.rangeAt g (i * 1) (cells_i8 r)) (hg : g < w.heap.size) (hi : i < n) :
    Calls Tryz.prog 456 #[.slice (some ⟨g, 0, none⟩) n c, .int .i64 i] w fun e w' => e = .returned (back_i8 r) ∧ Upd [] w w' := row_Int8 g n c i _ w (cell_of_range h) hi
/-- the column over the variable p -/
def V_i16 (p : Nat) : Value := .agg #[.iface 110 (.pointer (some ⟨p, 0, none⟩)), .func (Fn.func 38) #[] #[], .func (Fn.func 39) #[] #[]]
def val_i16 (r : R4) : Value := .int .i16 (IntKind.i16.wrap r.a)
def cells_i16 (r : R4) : List Value := [.int .i16 (IntKind.i16.wrap r.a)]
def back_i16 (r : R4) : Value := val_i16 r
def kept_i16 (r : R4) : R4 := one4 ((IntKind.i16.wrap r.a) % 65536)
def bytes_i16 (r : R4) : List Value := leV 2 (IntKind.i16.wrap r.a)
theorem vin_i16 (r : R4) (w : World) : Calls Tryz.prog 38 #[r.agg] w fun e w' => e = .returned (val_i16 r) ∧ Upd [] w w' := in_i16 r w
theorem vout_i16 (r : R4) (hr : Ok4 r) (w : World) : Calls Tryz.prog 39 #[back_i16 r] w fun e w' => e = .returned (kept_i16 r).agg ∧ Upd [] w w' := out_i16 _ (by rw [wrap_i16]; omega) w
theorem vapp_i16 (p : Nat) (ao : Option Addr) (n c : Nat) (xs : List Value) (r : R4) (w : World) (h : Hold w p 112 113 1 ao n c xs) (hn : n ≤ 1000000) :
    Calls Tryz.prog 209 #[.pointer (some ⟨p, 0, none⟩), val_i16 r] w fun e w' => e = .returned (.tuple #[]) ∧ Grew w w' p 112 113 1 ao (n + 1) (xs ++ cells_i16 r) := ColInt16_Append p ao n c xs _ w h hn
theorem vrow_i16 (g n c i : Nat) (r : R4) (w : World) (h : w.rangeAt g (i * 1) (cells_i16 r)) (hg : g < w.heap.size) (hi : i < n) :
    Calls Tryz.prog 213 #[.slice (some ⟨g, 0, none⟩) n c, .int .i64 i] w fun e w' => e = .returned (back_i16 r) ∧ Upd [] w w' := row_Int16 g n c i _ w (cell_of_range h) hi
/-- the column over the variable p -/
def V_i32 (p : Nat) : Value := .agg #[.iface 120 (.pointer (some ⟨p, 0, none⟩)), .func (Fn.func 40) #[] #[], .func (Fn.func 41) #[] #[]]
def val_i32 (r : R4) : Value := .int .i32 (IntKind.i32.wrap r.a)
def cells_i32 (r : R4) : List Value := [.int .i32 (IntKind.i32.wrap r.a)]
def back_i32 (r : R4) : Value := val_i32 r
def kept_i32 (r : R4) : R4 := one4 ((IntKind.i32.wrap r.a) % 4294967296)
def bytes_i32 (r : R4) : List Value := leV 4 (IntKind.i32.wrap r.a)
theorem vin_i32 (r : R4) (w : World) : Calls Tryz.prog 40 #[r.agg] w fun e w' => e = .returned (val_i32 r) ∧ Upd [] w w' := in_i32 r w
theorem vout_i32 (r : R4) (hr : Ok4 r) (w : World) : Calls Tryz.prog 41 #[back_i32 r] w fun e w' => e = .returned (kept_i32 r).agg ∧ Upd [] w w' := out_i32 _ (by rw [IntKind.wrap_i32]; omega) w
theorem vapp_i32 (p : Nat) (ao : Option Addr) (n c : Nat) (xs : List Value) (r : R4) (w : World) (h : Hold w p 122 21 1 ao n c xs) (hn : n ≤ 1000000) :
    Calls Tryz.prog 222 #[.pointer (some ⟨p, 0, none⟩), val_i32 r] w fun e w' => e = .returned (.tuple #[]) ∧ Grew w w' p 122 21 1 ao (n + 1) (xs ++ cells_i32 r) := ColInt32_Append p ao n c xs _ w h hn
theorem vrow_i32 (g n c i : Nat) (r : R4) (w : World) (h : w.rangeAt g (i * 1) (cells_i32 r)) (hg : g < w.heap.size) (hi : i < n) :
    Calls Tryz.prog 226 #[.slice (some ⟨g, 0, none⟩) n c, .int .i64 i] w fun e w' => e = .returned (back_i32 r) ∧ Upd [] w w' := row_Int32 g n c i _ w (cell_of_range h) hi
/-- the column over the variable p -/
def V_i64 (p : Nat) : Value := .agg #[.iface 129 (.pointer (some ⟨p, 0, none⟩)), .func (Fn.func 42) #[] #[], .func (Fn.func 43) #[] #[]]
def val_i64 (r : R4) : Value := .int .i64 (IntKind.i64.wrap r.a)
def cells_i64 (r : R4) : List Value := [.int .i64 (IntKind.i64.wrap r.a)]
def back_i64 (r : R4) : Value := val_i64 r
def kept_i64 (r : R4) : R4 := one4 ((IntKind.i64.wrap r.a) % 18446744073709551616)
def bytes_i64 (r : R4) : List Value := leV 8 (IntKind.i64.wrap r.a)
theorem vin_i64 (r : R4) (w : World) : Calls Tryz.prog 42 #[r.agg] w fun e w' => e = .returned (val_i64 r) ∧ Upd [] w w' := in_i64 r w
theorem vout_i64 (r : R4) (hr : Ok4 r) (w : World) : Calls Tryz.prog 43 #[back_i64 r] w fun e w' => e = .returned (kept_i64 r).agg ∧ Upd [] w w' := out_i64 _ (by rw [IntKind.wrap_i64]; omega) w
theorem vapp_i64 (p : Nat) (ao : Option Addr) (n c : Nat) (xs : List Value) (r : R4) (w : World) (h : Hold w p 131 2 1 ao n c xs) (hn : n ≤ 1000000) :
    Calls Tryz.prog 233 #[.pointer (some ⟨p, 0, none⟩), val_i64 r] w fun e w' => e = .returned (.tuple #[]) ∧ Grew w w' p 131 2 1 ao (n + 1) (xs ++ cells_i64 r) := ColInt64_Append p ao n c xs _ w h hn
theorem vrow_i64 (g n c i : Nat) (r : R4) (w : World) (h : w.rangeAt g (i * 1) (cells_i64 r)) (hg : g < w.heap.size) (hi : i < n) :
    Calls Tryz.prog 237 #[.slice (some ⟨g, 0, none⟩) n c, .int .i64 i] w fun e w' => e = .returned (back_i64 r) ∧ Upd [] w w' := row_Int64 g n c i _ w (cell_of_range h) hi
/-- the column over the variable p -/
def V_i128 (p : Nat) : Value := .agg #[.iface 138 (.pointer (some ⟨p, 0, none⟩)), .func (Fn.func 44) #[] #[], .func (Fn.func 46) #[] #[]]
def val_i128 (r : R4) : Value := .agg ([.int .u64 r.a, .int .u64 r.b] : List Value).toArray
def cells_i128 (r : R4) : List Value := [.int .u64 r.a, .int .u64 r.b]
def back_i128 (r : R4) : Value := val_i128 r
def kept_i128 (r : R4) : R4 := ⟨r.a, r.b, 0, 0⟩
def bytes_i128 (r : R4) : List Value := wbyte [r.a, r.b]
theorem vin_i128 (r : R4) (w : World) : Calls Tryz.prog 44 #[r.agg] w fun e w' => e = .returned (val_i128 r) ∧ Upd [] w w' := in_i128 r w
theorem vout_i128 (r : R4) (hr : Ok4 r) (w : World) : Calls Tryz.prog 46 #[back_i128 r] w fun e w' => e = .returned (kept_i128 r).agg ∧ Upd [] w w' := out_i128 _ _ w
theorem vapp_i128 (p : Nat) (ao : Option Addr) (n c : Nat) (xs : List Value) (r : R4) (w : World) (h : Hold w p 140 142 2 ao n c xs) (hn : n ≤ 1000000) :
    Calls Tryz.prog 246 #[.pointer (some ⟨p, 0, none⟩), val_i128 r] w fun e w' => e = .returned (.tuple #[]) ∧ Grew w w' p 140 142 2 ao (n + 1) (xs ++ cells_i128 r) := ColInt128_Append p ao n c xs _ w h hn rfl (by simp [R4.cells, Value.oneCell'])
theorem vrow_i128 (g n c i : Nat) (r : R4) (w : World) (h : w.rangeAt g (i * 2) (cells_i128 r)) (hg : g < w.heap.size) (hi : i < n) :
    Calls Tryz.prog 250 #[.slice (some ⟨g, 0, none⟩) n c, .int .i64 i] w fun e w' => e = .returned (back_i128 r) ∧ Upd [] w w' := row_Int128 g n c i _ w h rfl (by simp [cells_i128, R4.cells, Value.oneCell']) hg hi
/-- the column over the variable p -/
def V_i256 (p : Nat) : Value := .agg #[.iface 152 (.pointer (some ⟨p, 0, none⟩)), .func (Fn.func 48) #[] #[], .func (Fn.func 50) #[] #[]]
def val_i256 (r : R4) : Value := .agg (r.cells : List Value).toArray
def cells_i256 (r : R4) : List Value := r.cells
def back_i256 (r : R4) : Value := val_i256 r
def kept_i256 (r : R4) : R4 := r
def bytes_i256 (r : R4) : List Value := wbyte [r.a, r.b, r.c, r.d]
theorem vin_i256 (r : R4) (w : World) : Calls Tryz.prog 48 #[r.agg] w fun e w' => e = .returned (val_i256 r) ∧ Upd [] w w' := in_i256 r w
theorem vout_i256 (r : R4) (hr : Ok4 r) (w : World) : Calls Tryz.prog 50 #[back_i256 r] w fun e w' => e = .returned (kept_i256 r).agg ∧ Upd [] w w' := out_i256 _ _ _ _ w
theorem vapp_i256 (p : Nat) (ao : Option Addr) (n c : Nat) (xs : List Value) (r : R4) (w : World) (h : Hold w p 154 156 4 ao n c xs) (hn : n ≤ 1000000) :
    Calls Tryz.prog 261 #[.pointer (some ⟨p, 0, none⟩), val_i256 r] w fun e w' => e = .returned (.tuple #[]) ∧ Grew w w' p 154 156 4 ao (n + 1) (xs ++ cells_i256 r) := ColInt256_Append p ao n c xs _ w h hn rfl (by simp [R4.cells, Value.oneCell'])
theorem vrow_i256 (g n c i : Nat) (r : R4) (w : World) (h : w.rangeAt g (i * 4) (cells_i256 r)) (hg : g < w.heap.size) (hi : i < n) :
    Calls Tryz.prog 265 #[.slice (some ⟨g, 0, none⟩) n c, .int .i64 i] w fun e w' => e = .returned (back_i256 r) ∧ Upd [] w w' := row_Int256 g n c i _ w h rfl (by simp [cells_i256, R4.cells, Value.oneCell']) hg hi
/-- the column over the variable p -/
def V_u8 (p : Nat) : Value := .agg #[.iface 163 (.pointer (some ⟨p, 0, none⟩)), .func (Fn.func 51) #[] #[], .func (Fn.func 52) #[] #[]]
def val_u8 (r : R4) : Value := .int .u8 (IntKind.u8.wrap r.a)
def cells_u8 (r : R4) : List Value := [.int .u8 (IntKind.u8.wrap r.a)]
def back_u8 (r : R4) : Value := val_u8 r
def kept_u8 (r : R4) : R4 := one4 ((IntKind.u8.wrap r.a))
def bytes_u8 (r : R4) : List Value := [.int .u8 (IntKind.u8.wrap r.a)]
theorem vin_u8 (r : R4) (w : World) : Calls Tryz.prog 51 #[r.agg] w fun e w' => e = .returned (val_u8 r) ∧ Upd [] w w' := in_u8 r w
theorem vout_u8 (r : R4) (hr : Ok4 r) (w : World) : Calls Tryz.prog 52 #[back_u8 r] w fun e w' => e = .returned (kept_u8 r).agg ∧ Upd [] w w' := out_u8 _ (by rw [wrap_u8]; omega) w
theorem vapp_u8 (p : Nat) (ao : Option Addr) (n c : Nat) (xs : List Value) (r : R4) (w : World) (h : Hold w p 164 5 1 ao n c xs) (hn : n ≤ 1000000) :
    Calls Tryz.prog 274 #[.pointer (some ⟨p, 0, none⟩), val_u8 r] w fun e w' => e = .returned (.tuple #[]) ∧ Grew w w' p 164 5 1 ao (n + 1) (xs ++ cells_u8 r) := ColUInt8_Append p ao n c xs _ w h hn
theorem vrow_u8 (g n c i : Nat) (r : R4) (w : World) (h : w.rangeAt g (i * 1) (cells_u8 r)) (hg : g < w.heap.size) (hi : i < n) :
    Calls Tryz.prog 278 #[.slice (some ⟨g, 0, none⟩) n c, .int .i64 i] w fun e w' => e = .returned (back_u8 r) ∧ Upd [] w w' := row_UInt8 g n c i _ w (cell_of_range h) hi
/-- the column over the variable p -/
def V_u16 (p : Nat) : Value := .agg #[.iface 171 (.pointer (some ⟨p, 0, none⟩)), .func (Fn.func 53) #[] #[], .func (Fn.func 54) #[] #[]]
def val_u16 (r : R4) : Value := .int .u16 (IntKind.u16.wrap r.a)
def cells_u16 (r : R4) : List Value := [.int .u16 (IntKind.u16.wrap r.a)]
def back_u16 (r : R4) : Value := val_u16 r
def kept_u16 (r : R4) : R4 := one4 ((IntKind.u16.wrap r.a))
def bytes_u16 (r : R4) : List Value := leV 2 (IntKind.u16.wrap r.a)
theorem vin_u16 (r : R4) (w : World) : Calls Tryz.prog 53 #[r.agg] w fun e w' => e = .returned (val_u16 r) ∧ Upd [] w w' := in_u16 r w
theorem vout_u16 (r : R4) (hr : Ok4 r) (w : World) : Calls Tryz.prog 54 #[back_u16 r] w fun e w' => e = .returned (kept_u16 r).agg ∧ Upd [] w w' := out_u16 _ (by rw [IntKind.wrap_u16]; omega) w
theorem vapp_u16 (p : Nat) (ao : Option Addr) (n c : Nat) (xs : List Value) (r : R4) (w : World) (h : Hold w p 173 22 1 ao n c xs) (hn : n ≤ 1000000) :
    Calls Tryz.prog 285 #[.pointer (some ⟨p, 0, none⟩), val_u16 r] w fun e w' => e = .returned (.tuple #[]) ∧ Grew w w' p 173 22 1 ao (n + 1) (xs ++ cells_u16 r) := ColUInt16_Append p ao n c xs _ w h hn
theorem vrow_u16 (g n c i : Nat) (r : R4) (w : World) (h : w.rangeAt g (i * 1) (cells_u16 r)) (hg : g < w.heap.size) (hi : i < n) :
    Calls Tryz.prog 289 #[.slice (some ⟨g, 0, none⟩) n c, .int .i64 i] w fun e w' => e = .returned (back_u16 r) ∧ Upd [] w w' := row_UInt16 g n c i _ w (cell_of_range h) hi
/-- the column over the variable p -/
def V_u32 (p : Nat) : Value := .agg #[.iface 180 (.pointer (some ⟨p, 0, none⟩)), .func (Fn.func 55) #[] #[], .func (Fn.func 56) #[] #[]]
def val_u32 (r : R4) : Value := .int .u32 (IntKind.u32.wrap r.a)
def cells_u32 (r : R4) : List Value := [.int .u32 (IntKind.u32.wrap r.a)]
def back_u32 (r : R4) : Value := val_u32 r
def kept_u32 (r : R4) : R4 := one4 ((IntKind.u32.wrap r.a))
def bytes_u32 (r : R4) : List Value := leV 4 (IntKind.u32.wrap r.a)
theorem vin_u32 (r : R4) (w : World) : Calls Tryz.prog 55 #[r.agg] w fun e w' => e = .returned (val_u32 r) ∧ Upd [] w w' := in_u32 r w
theorem vout_u32 (r : R4) (hr : Ok4 r) (w : World) : Calls Tryz.prog 56 #[back_u32 r] w fun e w' => e = .returned (kept_u32 r).agg ∧ Upd [] w w' := out_u32 _ (by rw [IntKind.wrap_u32]; omega) w
theorem vapp_u32 (p : Nat) (ao : Option Addr) (n c : Nat) (xs : List Value) (r : R4) (w : World) (h : Hold w p 182 69 1 ao n c xs) (hn : n ≤ 1000000) :
    Calls Tryz.prog 296 #[.pointer (some ⟨p, 0, none⟩), val_u32 r] w fun e w' => e = .returned (.tuple #[]) ∧ Grew w w' p 182 69 1 ao (n + 1) (xs ++ cells_u32 r) := ColUInt32_Append p ao n c xs _ w h hn
theorem vrow_u32 (g n c i : Nat) (r : R4) (w : World) (h : w.rangeAt g (i * 1) (cells_u32 r)) (hg : g < w.heap.size) (hi : i < n) :
    Calls Tryz.prog 300 #[.slice (some ⟨g, 0, none⟩) n c, .int .i64 i] w fun e w' => e = .returned (back_u32 r) ∧ Upd [] w w' := row_UInt32 g n c i _ w (cell_of_range h) hi
/-- the column over the variable p -/
def V_u64 (p : Nat) : Value := .agg #[.iface 189 (.pointer (some ⟨p, 0, none⟩)), .func (Fn.func 57) #[] #[], .func (Fn.func 58) #[] #[]]
def val_u64 (r : R4) : Value := .int .u64 r.a
def cells_u64 (r : R4) : List Value := [.int .u64 r.a]
def back_u64 (r : R4) : Value := val_u64 r
def kept_u64 (r : R4) : R4 := one4 r.a
def bytes_u64 (r : R4) : List Value := leV 8 r.a
theorem vin_u64 (r : R4) (w : World) : Calls Tryz.prog 57 #[r.agg] w fun e w' => e = .returned (val_u64 r) ∧ Upd [] w w' := in_u64 r w
theorem vout_u64 (r : R4) (hr : Ok4 r) (w : World) : Calls Tryz.prog 58 #[back_u64 r] w fun e w' => e = .returned (kept_u64 r).agg ∧ Upd [] w w' := out_u64 _ hr.1 w
theorem vapp_u64 (p : Nat) (ao : Option Addr) (n c : Nat) (xs : List Value) (r : R4) (w : World) (h : Hold w p 191 65 1 ao n c xs) (hn : n ≤ 1000000) :
    Calls Tryz.prog 307 #[.pointer (some ⟨p, 0, none⟩), val_u64 r] w fun e w' => e = .returned (.tuple #[]) ∧ Grew w w' p 191 65 1 ao (n + 1) (xs ++ cells_u64 r) := ColUInt64_Append p ao n c xs _ w h hn
theorem vrow_u64 (g n c i : Nat) (r : R4) (w : World) (h : w.rangeAt g (i * 1) (cells_u64 r)) (hg : g < w.heap.size) (hi : i < n) :
    Calls Tryz.prog 311 #[.slice (some ⟨g, 0, none⟩) n c, .int .i64 i] w fun e w' => e = .returned (back_u64 r) ∧ Upd [] w w' := row_UInt64 g n c i _ w (cell_of_range h) hi
/-- the column over the variable p -/
def V_u128 (p : Nat) : Value := .agg #[.iface 233 (.pointer (some ⟨p, 0, none⟩)), .func (Fn.func 45) #[] #[], .func (Fn.func 76) #[] #[]]
def val_u128 (r : R4) : Value := .agg ([.int .u64 r.a, .int .u64 r.b] : List Value).toArray
def cells_u128 (r : R4) : List Value := [.int .u64 r.a, .int .u64 r.b]
def back_u128 (r : R4) : Value := val_u128 r
def kept_u128 (r : R4) : R4 := ⟨r.a, r.b, 0, 0⟩
def bytes_u128 (r : R4) : List Value := wbyte [r.a, r.b]
theorem vin_u128 (r : R4) (w : World) : Calls Tryz.prog 45 #[r.agg] w fun e w' => e = .returned (val_u128 r) ∧ Upd [] w w' := low_of r w
theorem vout_u128 (r : R4) (hr : Ok4 r) (w : World) : Calls Tryz.prog 76 #[back_u128 r] w fun e w' => e = .returned (kept_u128 r).agg ∧ Upd [] w w' := out_u128 _ _ w
theorem vapp_u128 (p : Nat) (ao : Option Addr) (n c : Nat) (xs : List Value) (r : R4) (w : World) (h : Hold w p 235 143 2 ao n c xs) (hn : n ≤ 1000000) :
    Calls Tryz.prog 319 #[.pointer (some ⟨p, 0, none⟩), val_u128 r] w fun e w' => e = .returned (.tuple #[]) ∧ Grew w w' p 235 143 2 ao (n + 1) (xs ++ cells_u128 r) := ColUInt128_Append p ao n c xs _ w h hn rfl (by simp [R4.cells, Value.oneCell'])
theorem vrow_u128 (g n c i : Nat) (r : R4) (w : World) (h : w.rangeAt g (i * 2) (cells_u128 r)) (hg : g < w.heap.size) (hi : i < n) :
    Calls Tryz.prog 323 #[.slice (some ⟨g, 0, none⟩) n c, .int .i64 i] w fun e w' => e = .returned (back_u128 r) ∧ Upd [] w w' := row_UInt128 g n c i _ w h rfl (by simp [cells_u128, R4.cells, Value.oneCell']) hg hi
/-- the column over the variable p -/
def V_u256 (p : Nat) : Value := .agg #[.iface 241 (.pointer (some ⟨p, 0, none⟩)), .func (Fn.func 77) #[] #[], .func (Fn.func 78) #[] #[]]
def val_u256 (r : R4) : Value := .agg (r.cells : List Value).toArray
def cells_u256 (r : R4) : List Value := r.cells
def back_u256 (r : R4) : Value := val_u256 r
def kept_u256 (r : R4) : R4 := r
def bytes_u256 (r : R4) : List Value := wbyte [r.a, r.b, r.c, r.d]
theorem vin_u256 (r : R4) (w : World) : Calls Tryz.prog 77 #[r.agg] w fun e w' => e = .returned (val_u256 r) ∧ Upd [] w w' := in_u256 r w
theorem vout_u256 (r : R4) (hr : Ok4 r) (w : World) : Calls Tryz.prog 78 #[back_u256 r] w fun e w' => e = .returned (kept_u256 r).agg ∧ Upd [] w w' := out_u256 _ _ _ _ w
theorem vapp_u256 (p : Nat) (ao : Option Addr) (n c : Nat) (xs : List Value) (r : R4) (w : World) (h : Hold w p 243 244 4 ao n c xs) (hn : n ≤ 1000000) :
    Calls Tryz.prog 330 #[.pointer (some ⟨p, 0, none⟩), val_u256 r] w fun e w' => e = .returned (.tuple #[]) ∧ Grew w w' p 243 244 4 ao (n + 1) (xs ++ cells_u256 r) := ColUInt256_Append p ao n c xs _ w h hn rfl (by simp [R4.cells, Value.oneCell'])
theorem vrow_u256 (g n c i : Nat) (r : R4) (w : World) (h : w.rangeAt g (i * 4) (cells_u256 r)) (hg : g < w.heap.size) (hi : i < n) :
    Calls Tryz.prog 334 #[.slice (some ⟨g, 0, none⟩) n c, .int .i64 i] w fun e w' => e = .returned (back_u256 r) ∧ Upd [] w w' := row_UInt256 g n c i _ w h rfl (by simp [cells_u256, R4.cells, Value.oneCell']) hg hi
/-- the column over the variable p -/
def V_f32 (p : Nat) : Value := .agg #[.iface 251 (.pointer (some ⟨p, 0, none⟩)), .func (Fn.func 79) #[] #[], .func (Fn.func 80) #[] #[]]
def val_f32 (r : R4) : Value := .float .f32 (IntKind.u32.wrap r.a).toNat
def cells_f32 (r : R4) : List Value := [.float .f32 (IntKind.u32.wrap r.a).toNat]
def back_f32 (r : R4) : Value := val_f32 r
def kept_f32 (r : R4) : R4 := one4 ((IntKind.u32.wrap r.a).toNat : Nat)
def bytes_f32 (r : R4) : List Value := leV 4 ((IntKind.u32.wrap r.a).toNat : Nat)
theorem vin_f32 (r : R4) (w : World) : Calls Tryz.prog 79 #[r.agg] w fun e w' => e = .returned (val_f32 r) ∧ Upd [] w w' := in_f32 r w
theorem vout_f32 (r : R4) (hr : Ok4 r) (w : World) : Calls Tryz.prog 80 #[back_f32 r] w fun e w' => e = .returned (kept_f32 r).agg ∧ Upd [] w w' := out_f32 _ (by rw [IntKind.wrap_u32]; omega) w
theorem vapp_f32 (p : Nat) (ao : Option Addr) (n c : Nat) (xs : List Value) (r : R4) (w : World) (h : Hold w p 253 349 1 ao n c xs) (hn : n ≤ 1000000) :
    Calls Tryz.prog 341 #[.pointer (some ⟨p, 0, none⟩), val_f32 r] w fun e w' => e = .returned (.tuple #[]) ∧ Grew w w' p 253 349 1 ao (n + 1) (xs ++ cells_f32 r) := ColFloat32_Append p ao n c xs _ w h hn
theorem vrow_f32 (g n c i : Nat) (r : R4) (w : World) (h : w.rangeAt g (i * 1) (cells_f32 r)) (hg : g < w.heap.size) (hi : i < n) :
    Calls Tryz.prog 345 #[.slice (some ⟨g, 0, none⟩) n c, .int .i64 i] w fun e w' => e = .returned (back_f32 r) ∧ Upd [] w w' := row_Float32 g n c i _ w (cell_of_range h) hi
/-- the column over the variable p -/
def V_f64 (p : Nat) : Value := .agg #[.iface 260 (.pointer (some ⟨p, 0, none⟩)), .func (Fn.func 81) #[] #[], .func (Fn.func 83) #[] #[]]
def val_f64 (r : R4) : Value := .float .f64 r.a.toNat
def cells_f64 (r : R4) : List Value := [.float .f64 r.a.toNat]
def back_f64 (r : R4) : Value := val_f64 r
def kept_f64 (r : R4) : R4 := one4 (r.a.toNat : Nat)
def bytes_f64 (r : R4) : List Value := leV 8 (r.a.toNat : Nat)
theorem vin_f64 (r : R4) (w : World) : Calls Tryz.prog 81 #[r.agg] w fun e w' => e = .returned (val_f64 r) ∧ Upd [] w w' := in_f64 r w
theorem vout_f64 (r : R4) (hr : Ok4 r) (w : World) : Calls Tryz.prog 83 #[back_f64 r] w fun e w' => e = .returned (kept_f64 r).agg ∧ Upd [] w w' := out_f64 _ (by have := hr.1; omega) w
theorem vapp_f64 (p : Nat) (ao : Option Addr) (n c : Nat) (xs : List Value) (r : R4) (w : World) (h : Hold w p 262 263 1 ao n c xs) (hn : n ≤ 1000000) :
    Calls Tryz.prog 352 #[.pointer (some ⟨p, 0, none⟩), val_f64 r] w fun e w' => e = .returned (.tuple #[]) ∧ Grew w w' p 262 263 1 ao (n + 1) (xs ++ cells_f64 r) := ColFloat64_Append p ao n c xs _ w h hn
theorem vrow_f64 (g n c i : Nat) (r : R4) (w : World) (h : w.rangeAt g (i * 1) (cells_f64 r)) (hg : g < w.heap.size) (hi : i < n) :
    Calls Tryz.prog 356 #[.slice (some ⟨g, 0, none⟩) n c, .int .i64 i] w fun e w' => e = .returned (back_f64 r) ∧ Upd [] w w' := row_Float64 g n c i _ w (cell_of_range h) hi
/-- the column over the variable p -/
def V_bf (p : Nat) : Value := .agg #[.iface 272 (.pointer (some ⟨p, 0, none⟩)), .func (Fn.func 79) #[] #[], .func (Fn.func 80) #[] #[]]
def val_bf (r : R4) : Value := .float .f32 (IntKind.u32.wrap r.a).toNat
def cells_bf (r : R4) : List Value := [.int .u16 (bfR (IntKind.u32.wrap r.a).toNat)]
def back_bf (r : R4) : Value := .float .f32 (bfR (IntKind.u32.wrap r.a).toNat * 65536).toNat
def kept_bf (r : R4) : R4 := one4 ((bfR (IntKind.u32.wrap r.a).toNat * 65536).toNat : Nat)
def bytes_bf (r : R4) : List Value := leV 2 (bfR (IntKind.u32.wrap r.a).toNat)
theorem vin_bf (r : R4) (w : World) : Calls Tryz.prog 79 #[r.agg] w fun e w' => e = .returned (val_bf r) ∧ Upd [] w w' := in_f32 r w
theorem vout_bf (r : R4) (hr : Ok4 r) (w : World) : Calls Tryz.prog 80 #[back_bf r] w fun e w' => e = .returned (kept_bf r).agg ∧ Upd [] w w' := out_f32 _ (by have := bfR_range (IntKind.u32.wrap r.a).toNat; omega) w
theorem vapp_bf (p : Nat) (ao : Option Addr) (n c : Nat) (xs : List Value) (r : R4) (w : World) (h : Hold w p 273 22 1 ao n c xs) (hn : n ≤ 1000000) :
    Calls Tryz.prog 363 #[.pointer (some ⟨p, 0, none⟩), val_bf r] w fun e w' => e = .returned (.tuple #[]) ∧ Grew w w' p 273 22 1 ao (n + 1) (xs ++ cells_bf r) := ColBFloat16_Append p ao n c xs _ (by rw [IntKind.wrap_u32]; omega) w h hn
theorem vrow_bf (g n c i : Nat) (r : R4) (w : World) (h : w.rangeAt g (i * 1) (cells_bf r)) (hg : g < w.heap.size) (hi : i < n) :
    Calls Tryz.prog 368 #[.slice (some ⟨g, 0, none⟩) n c, .int .i64 i] w fun e w' => e = .returned (back_bf r) ∧ Upd [] w w' := row_BFloat16 g n c i _ (bfR_range _) w (cell_of_range h) hi
/-- the column over the variable p -/
def V_bool (p : Nat) : Value := .agg #[.iface 274 (.pointer (some ⟨p, 0, none⟩)), .func (Fn.func 85) #[] #[], .func (Fn.func 86) #[] #[]]
def val_bool (r : R4) : Value := .bool (!(r.a == 0))
def cells_bool (r : R4) : List Value := [.bool (!(r.a == 0))]
def back_bool (r : R4) : Value := val_bool r
def kept_bool (r : R4) : R4 := one4 (if (!(r.a == 0)) then 1 else 0)
def bytes_bool (r : R4) : List Value := [bitV (!(r.a == 0))]
theorem vin_bool (r : R4) (w : World) : Calls Tryz.prog 85 #[r.agg] w fun e w' => e = .returned (val_bool r) ∧ Upd [] w w' := in_bool r w
theorem vout_bool (r : R4) (hr : Ok4 r) (w : World) : Calls Tryz.prog 86 #[back_bool r] w fun e w' => e = .returned (kept_bool r).agg ∧ Upd [] w w' := out_bool _ w
theorem vapp_bool (p : Nat) (ao : Option Addr) (n c : Nat) (xs : List Value) (r : R4) (w : World) (h : Hold w p 276 4 1 ao n c xs) (hn : n ≤ 1000000) :
    Calls Tryz.prog 374 #[.pointer (some ⟨p, 0, none⟩), val_bool r] w fun e w' => e = .returned (.tuple #[]) ∧ Grew w w' p 276 4 1 ao (n + 1) (xs ++ cells_bool r) := ColBool_Append p ao n c xs _ w h hn
theorem vrow_bool (g n c i : Nat) (r : R4) (w : World) (h : w.rangeAt g (i * 1) (cells_bool r)) (hg : g < w.heap.size) (hi : i < n) :
    Calls Tryz.prog 378 #[.slice (some ⟨g, 0, none⟩) n c, .int .i64 i] w fun e w' => e = .returned (back_bool r) ∧ Upd [] w w' := row_Bool g n c i _ w (cell_of_range h) hi
/-- the column over the variable p -/
def V_ipv4 (p : Nat) : Value := .agg #[.iface 282 (.pointer (some ⟨p, 0, none⟩)), .func (Fn.func 87) #[] #[], .func (Fn.func 88) #[] #[]]
def val_ipv4 (r : R4) : Value := .int .u32 (IntKind.u32.wrap r.a)
def cells_ipv4 (r : R4) : List Value := [.int .u32 (IntKind.u32.wrap r.a)]
def back_ipv4 (r : R4) : Value := val_ipv4 r
def kept_ipv4 (r : R4) : R4 := one4 ((IntKind.u32.wrap r.a))
def bytes_ipv4 (r : R4) : List Value := leV 4 (IntKind.u32.wrap r.a)
theorem vin_ipv4 (r : R4) (w : World) : Calls Tryz.prog 87 #[r.agg] w fun e w' => e = .returned (val_ipv4 r) ∧ Upd [] w w' := in_ipv4 r w
theorem vout_ipv4 (r : R4) (hr : Ok4 r) (w : World) : Calls Tryz.prog 88 #[back_ipv4 r] w fun e w' => e = .returned (kept_ipv4 r).agg ∧ Upd [] w w' := out_ipv4 _ (by rw [IntKind.wrap_u32]; omega) w
theorem vapp_ipv4 (p : Nat) (ao : Option Addr) (n c : Nat) (xs : List Value) (r : R4) (w : World) (h : Hold w p 284 285 1 ao n c xs) (hn : n ≤ 1000000) :
    Calls Tryz.prog 386 #[.pointer (some ⟨p, 0, none⟩), val_ipv4 r] w fun e w' => e = .returned (.tuple #[]) ∧ Grew w w' p 284 285 1 ao (n + 1) (xs ++ cells_ipv4 r) := ColIPv4_Append p ao n c xs _ w h hn
theorem vrow_ipv4 (g n c i : Nat) (r : R4) (w : World) (h : w.rangeAt g (i * 1) (cells_ipv4 r)) (hg : g < w.heap.size) (hi : i < n) :
    Calls Tryz.prog 390 #[.slice (some ⟨g, 0, none⟩) n c, .int .i64 i] w fun e w' => e = .returned (back_ipv4 r) ∧ Upd [] w w' := row_IPv4 g n c i _ w (cell_of_range h) hi
/-- the column over the variable p -/
def V_ip (p : Nat) : Value := .agg #[.iface 292 (.pointer (some ⟨p, 0, none⟩)), .func (Fn.func 89) #[] #[], .func (Fn.func 91) #[] #[]]
def val_ip (r : R4) : Value := .agg (lowV r.a r.b 16).toArray
def cells_ip (r : R4) : List Value := lowV r.a r.b 16
def back_ip (r : R4) : Value := val_ip r
def kept_ip (r : R4) : R4 := ⟨r.a, r.b, 0, 0⟩
def bytes_ip (r : R4) : List Value := lowV r.a r.b 16
theorem vin_ip (r : R4) (w : World) : Calls Tryz.prog 89 #[r.agg] w fun e w' => e = .returned (val_ip r) ∧ Upd [] w w' := in_ip r w
theorem vout_ip (r : R4) (hr : Ok4 r) (w : World) : Calls Tryz.prog 91 #[back_ip r] w fun e w' => e = .returned (kept_ip r).agg ∧ Upd [] w w' := out_ip _ _ hr.1 hr.2.1 w
theorem vapp_ip (p : Nat) (ao : Option Addr) (n c : Nat) (xs : List Value) (r : R4) (w : World) (h : Hold w p 294 296 16 ao n c xs) (hn : n ≤ 1000000) :
    Calls Tryz.prog 397 #[.pointer (some ⟨p, 0, none⟩), val_ip r] w fun e w' => e = .returned (.tuple #[]) ∧ Grew w w' p 294 296 16 ao (n + 1) (xs ++ cells_ip r) := ColIPv6_Append p ao n c xs _ w h hn (lowV_len _ _ _) (lowV_bytes _ _ _).one
theorem vrow_ip (g n c i : Nat) (r : R4) (w : World) (h : w.rangeAt g (i * 16) (cells_ip r)) (hg : g < w.heap.size) (hi : i < n) :
    Calls Tryz.prog 401 #[.slice (some ⟨g, 0, none⟩) n c, .int .i64 i] w fun e w' => e = .returned (back_ip r) ∧ Upd [] w w' := row_IPv6 g n c i _ w h (lowV_len _ _ _) (lowV_bytes _ _ _).one hg hi
theorem zz0 : (0 : Int) ≤ 0 ∧ (0 : Int) < 18446744073709551616 := by decide
theorem fm1 {α : Type} (f : R4 → α) (g : α → Value) (rs : List R4) : rs.flatMap (fun r => [g (f r)]) = (rs.map f).map g := by
  induction rs with
  | nil => rfl
  | cons r rs ih => simp [ih]
theorem fm2 {α : Type} (f : R4 → α) (g : α → List Value) (rs : List R4) : (rs.map f).flatMap g = rs.flatMap (fun r => g (f r)) := List.flatMap_map _ _ _
theorem words2 {rs : List R4} (h : ∀ r ∈ rs, Ok4 r) : Words 2 (rs.map (fun r => [r.a, r.b])) := by
  intro v hv
  obtain ⟨r, hr, rfl⟩ := List.mem_map.1 hv
  refine ⟨rfl, fun x hx => ?_⟩
  simp at hx
  rcases hx with rfl | rfl
  · exact (h r hr).1
  · exact (h r hr).2.1
theorem words4 {rs : List R4} (h : ∀ r ∈ rs, Ok4 r) : Words 4 (rs.map (fun r => [r.a, r.b, r.c, r.d])) := by
  intro v hv
  obtain ⟨r, hr, rfl⟩ := List.mem_map.1 hv
  refine ⟨rfl, fun x hx => ?_⟩
  simp at hx
  rcases hx with rfl | rfl | rfl | rfl
  · exact (h r hr).1
  · exact (h r hr).2.1
  · exact (h r hr).2.2.1
  · exact (h r hr).2.2.2
theorem arrs16 (rs : List R4) : Arrs 16 (rs.map (fun r => lowV r.a r.b 16)) := by
  intro v hv
  obtain ⟨r, _, rfl⟩ := List.mem_map.1 hv
  exact ⟨lowV_len _ _ _, (lowV_bytes _ _ _).one⟩
end Go.Proofs.YtfbohkbpgfnceaaGreatDoor
