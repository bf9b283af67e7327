/- What the functions of each kind of column do. -/
import Derived.Test.YtfbohkbpgfnceaaGreatDoorKG3
import Derived.Test.YtfbohkbpgfnceaaGreatDoorKF
import Derived.Stop.Asserts
namespace Go.Proofs.YtfbohkbpgfnceaaGreatDoor
set_option linter.unusedVariables false
set_option linter.unusedSimpArgs false
open Go Go.RowKit
/-! ### Float32 -/
theorem byt_f32 (r : R4) : AllBytes (bytes_f32 r) := leV_bytes _ _
theorem okk_f32 (r : R4) (hr : Ok4 r) : Ok4 (kept_f32 r) := ⟨by show 0 ≤ (((IntKind.u32.wrap r.a).toNat : Nat) : Int) ∧ (((IntKind.u32.wrap r.a).toNat : Nat) : Int) < _; rw [IntKind.wrap_u32]; omega, ⟨zz0, zz0, zz0⟩⟩
theorem mRows1_f32 (k p : Nat) (w : World) : (method (k + 1) 259 (V_f32 p) "Rows").run Tryz.prog w = (method k 251 (.pointer (some ⟨p, 0, none⟩)) "Rows").run Tryz.prog w := by kernel_rfl
theorem mRows2_f32 (k p : Nat) (w : World) : (method (k + 1) 251 (.pointer (some ⟨p, 0, none⟩)) "Rows").run Tryz.prog w = (do let v ← receiverAt 251 (.val (.pointer (some ⟨p, 0, none⟩))) false (some "Rows"); pure (346, v) : Sem (FuncId × Value)).run Tryz.prog w := by kernel_rfl
theorem mRows3_f32 (p : Nat) (w : World) : (receiverAt 251 (.val (.pointer (some ⟨p, 0, none⟩))) false (some "Rows")).run Tryz.prog w = (loadVar 253 ⟨p, 0, none⟩).run Tryz.prog w := by kernel_rfl
theorem mRows_f32 (p : Nat) (w : World) (v : Value) (h : w.cell? ⟨p, 0, none⟩ = some v) : (method 625 259 (V_f32 p) "Rows").run Tryz.prog w = .ok (346, v) w := by
  rw [show 625 = (625 - 2) + 1 + 1 from rfl, mRows1_f32, mRows2_f32]
  simp only [Sem.run_bind, mRows3_f32, load_f32 p w v h, Result.andThen_ok, Sem.run_pure]
theorem mType1_f32 (k p : Nat) (w : World) : (method (k + 1) 259 (V_f32 p) "Type").run Tryz.prog w = (method k 251 (.pointer (some ⟨p, 0, none⟩)) "Type").run Tryz.prog w := by kernel_rfl
theorem mType2_f32 (k p : Nat) (w : World) : (method (k + 1) 251 (.pointer (some ⟨p, 0, none⟩)) "Type").run Tryz.prog w = (do let v ← receiverAt 251 (.val (.pointer (some ⟨p, 0, none⟩))) false (some "Type"); pure (347, v) : Sem (FuncId × Value)).run Tryz.prog w := by kernel_rfl
theorem mType3_f32 (p : Nat) (w : World) : (receiverAt 251 (.val (.pointer (some ⟨p, 0, none⟩))) false (some "Type")).run Tryz.prog w = (loadVar 253 ⟨p, 0, none⟩).run Tryz.prog w := by kernel_rfl
theorem mType_f32 (p : Nat) (w : World) (v : Value) (h : w.cell? ⟨p, 0, none⟩ = some v) : (method 625 259 (V_f32 p) "Type").run Tryz.prog w = .ok (347, v) w := by
  rw [show 625 = (625 - 2) + 1 + 1 from rfl, mType1_f32, mType2_f32]
  simp only [Sem.run_bind, mType3_f32, load_f32 p w v h, Result.andThen_ok, Sem.run_pure]
theorem mEncodeColumn1_f32 (k p : Nat) (w : World) : (method (k + 1) 259 (V_f32 p) "EncodeColumn").run Tryz.prog w = (method k 251 (.pointer (some ⟨p, 0, none⟩)) "EncodeColumn").run Tryz.prog w := by kernel_rfl
theorem mEncodeColumn2_f32 (k p : Nat) (w : World) : (method (k + 1) 251 (.pointer (some ⟨p, 0, none⟩)) "EncodeColumn").run Tryz.prog w = (do let v ← receiverAt 251 (.val (.pointer (some ⟨p, 0, none⟩))) false (some "EncodeColumn"); pure (343, v) : Sem (FuncId × Value)).run Tryz.prog w := by kernel_rfl
theorem mEncodeColumn3_f32 (p : Nat) (w : World) : (receiverAt 251 (.val (.pointer (some ⟨p, 0, none⟩))) false (some "EncodeColumn")).run Tryz.prog w = (loadVar 253 ⟨p, 0, none⟩).run Tryz.prog w := by kernel_rfl
theorem mEncodeColumn_f32 (p : Nat) (w : World) (v : Value) (h : w.cell? ⟨p, 0, none⟩ = some v) : (method 625 259 (V_f32 p) "EncodeColumn").run Tryz.prog w = .ok (343, v) w := by
  rw [show 625 = (625 - 2) + 1 + 1 from rfl, mEncodeColumn1_f32, mEncodeColumn2_f32]
  simp only [Sem.run_bind, mEncodeColumn3_f32, load_f32 p w v h, Result.andThen_ok, Sem.run_pure]
theorem mReset_f32 (p : Nat) (w : World) : (method 625 259 (V_f32 p) "Reset").run Tryz.prog w = .ok (344, .pointer (some ⟨p, 0, none⟩)) w := by kernel_rfl
theorem mDecodeColumn_f32 (p : Nat) (w : World) : (method 625 259 (V_f32 p) "DecodeColumn").run Tryz.prog w = .ok (342, .pointer (some ⟨p, 0, none⟩)) w := by kernel_rfl
theorem mIadd_f32 (p : Nat) (w : World) : (method 625 259 (V_f32 p) "given.example/pub-clapboard/impl.add").run Tryz.prog w = .ok (349, V_f32 p) w := by kernel_rfl
theorem mIat_f32 (p : Nat) (w : World) : (method 625 259 (V_f32 p) "given.example/pub-clapboard/impl.at").run Tryz.prog w = .ok (351, V_f32 p) w := by kernel_rfl
theorem taPrep_f32 (p : Nat) (w : World) : (Instr.typeAssert (.iface 259 (V_f32 p)) 76 205 true).run Tryz.prog w = .ok (.tuple #[.nilIface, .bool false]) w := run_typeAssert_lacksB Tryz.underlying205 (by kernel_rfl) (by kernel_rfl) _ _ w
theorem taState_f32 (p : Nat) (w : World) : (Instr.typeAssert (.iface 259 (V_f32 p)) 76 210 true).run Tryz.prog w = .ok (.tuple #[.nilIface, .bool false]) w := run_typeAssert_lacksB Tryz.underlying210 (by kernel_rfl) (by kernel_rfl) _ _ w
theorem taInfer_f32 (p : Nat) (w : World) : (Instr.typeAssert (.iface 259 (V_f32 p)) 89 375 true).run Tryz.prog w = .ok (.tuple #[.nilIface, .bool false]) w := run_typeAssert_lacksB Tryz.underlying375 (by kernel_rfl) (by kernel_rfl) _ _ w
theorem taStateD_f32 (p : Nat) (w : World) : (Instr.typeAssert (.iface 259 (V_f32 p)) 89 380 true).run Tryz.prog w = .ok (.tuple #[.nilIface, .bool false]) w := run_typeAssert_lacksB Tryz.underlying380 (by kernel_rfl) (by kernel_rfl) _ _ w
set_option maxRecDepth 100000 in
set_option maxHeartbeats 1000000 in
theorem colO_f32 (w : World) : Calls Tryz.prog 59 #[.int .i64 13] w fun e w' => e = .returned (.iface 259 (V_f32 w.heap.size)) ∧ w' = w.alloc (.cells #[.slice none 0 0] 253) := by
  go_enter Tryz.func59, Tryz.ntmps59
  simp only [V_f32]
  go_wp2
  go_ret
  exact ⟨rfl, rfl⟩
set_option maxRecDepth 100000 in
set_option maxHeartbeats 1000000 in
theorem col_f32 (w : World) : Calls Tryz.prog 23 #[.int .i64 13] w fun e w' => e = .returned (.iface 259 (V_f32 w.heap.size)) ∧ w' = w.alloc (.cells #[.slice none 0 0] 253) := by
  go_enter Tryz.func23, Tryz.ntmps23
  go_wp2_with (go_at_call 59; (with_reducible refine (colO_f32 _).mono ?_); rintro e w1 ⟨rfl, rfl⟩)
  go_ret
  exact ⟨rfl, rfl⟩
/-- Float32 -/
def K_f32 : Kd := ⟨13, 259, 253, 349, 1, V_f32, "Float32".toUTF8, 4, cells_f32, bytes_f32, kept_f32, 349, 351, 346, 347, 343, 344, 342⟩
theorem ok_f32 : KdOK K_f32 where
  sz := fun r => rfl
  sz0 := by decide
  wd := fun r => rfl
  wd0 := by decide
  wd1 := by decide
  byt := byt_f32
  nm := by decide
  okk := okk_f32
  col := col_f32
  eAdd := fun _ _ => by kernel_rfl
  eAt := fun _ _ => by kernel_rfl
  eRows := fun _ _ => by kernel_rfl
  eType := fun _ _ => by kernel_rfl
  eEnc := fun _ _ => by kernel_rfl
  eReset := fun _ _ => by kernel_rfl
  eDec := fun _ _ => by kernel_rfl
  mAdd := mIadd_f32
  mAt := mIat_f32
  mRows := mRows_f32
  mType := mType_f32
  mEnc := mEncodeColumn_f32
  mReset := mReset_f32
  mDec := mDecodeColumn_f32
  taPrep := taPrep_f32
  taState := taState_f32
  taInfer := taInfer_f32
  taStateD := taStateD_f32
  add := fun p ar n c rs ao m cp xs w h1 h2 h3 h4 h5 _ => add_f32 p ar n c rs ao m cp xs w h1 h2 h3 h4 h5
  rows := rows_Float32
  type := type_Float32
  enc := fun ac n cc rs bp ao m cp bs w hc hrs hb hap hac h0 hn hm => by
    have h := ColFloat32_EncodeColumn ac n cc (rs.map (fun r => (IntKind.u32.wrap r.a).toNat)) bp ao m cp bs w (by rw [← fm1]; exact hc) hb hap hac (by omega) (by omega)
    rw [fm2] at h
    exact h
  reset := fun p w h => reset_Float32 p _ _ w h
  dec := fun p rd bf d ao n rs rest w hrs hR hl h0 h30 hH ho => by
    have h := ColFloat32_DecodeColumn p rd bf d ao n (rs.map (fun r => (IntKind.u32.wrap r.a).toNat)) (by intro x hx; obtain ⟨r, hr, rfl⟩ := List.mem_map.1 hx; (try dsimp only); rw [IntKind.wrap_u32]; omega) rest w (by rw [fm2]; exact hR) (by rw [List.length_map]; exact hl) h0 h30 hH ho
    rw [← fm1] at h
    exact h
  at_ := at_f32
/-! ### Float64 -/
theorem byt_f64 (r : R4) : AllBytes (bytes_f64 r) := leV_bytes _ _
theorem okk_f64 (r : R4) (hr : Ok4 r) : Ok4 (kept_f64 r) := ⟨by have := hr.1; show 0 ≤ ((r.a.toNat : Nat) : Int) ∧ ((r.a.toNat : Nat) : Int) < _; omega, ⟨zz0, zz0, zz0⟩⟩
theorem mRows1_f64 (k p : Nat) (w : World) : (method (k + 1) 271 (V_f64 p) "Rows").run Tryz.prog w = (method k 260 (.pointer (some ⟨p, 0, none⟩)) "Rows").run Tryz.prog w := by kernel_rfl
theorem mRows2_f64 (k p : Nat) (w : World) : (method (k + 1) 260 (.pointer (some ⟨p, 0, none⟩)) "Rows").run Tryz.prog w = (do let v ← receiverAt 260 (.val (.pointer (some ⟨p, 0, none⟩))) false (some "Rows"); pure (357, v) : Sem (FuncId × Value)).run Tryz.prog w := by kernel_rfl
theorem mRows3_f64 (p : Nat) (w : World) : (receiverAt 260 (.val (.pointer (some ⟨p, 0, none⟩))) false (some "Rows")).run Tryz.prog w = (loadVar 262 ⟨p, 0, none⟩).run Tryz.prog w := by kernel_rfl
theorem mRows_f64 (p : Nat) (w : World) (v : Value) (h : w.cell? ⟨p, 0, none⟩ = some v) : (method 625 271 (V_f64 p) "Rows").run Tryz.prog w = .ok (357, v) w := by
  rw [show 625 = (625 - 2) + 1 + 1 from rfl, mRows1_f64, mRows2_f64]
  simp only [Sem.run_bind, mRows3_f64, load_f64 p w v h, Result.andThen_ok, Sem.run_pure]
theorem mType1_f64 (k p : Nat) (w : World) : (method (k + 1) 271 (V_f64 p) "Type").run Tryz.prog w = (method k 260 (.pointer (some ⟨p, 0, none⟩)) "Type").run Tryz.prog w := by kernel_rfl
theorem mType2_f64 (k p : Nat) (w : World) : (method (k + 1) 260 (.pointer (some ⟨p, 0, none⟩)) "Type").run Tryz.prog w = (do let v ← receiverAt 260 (.val (.pointer (some ⟨p, 0, none⟩))) false (some "Type"); pure (358, v) : Sem (FuncId × Value)).run Tryz.prog w := by kernel_rfl
theorem mType3_f64 (p : Nat) (w : World) : (receiverAt 260 (.val (.pointer (some ⟨p, 0, none⟩))) false (some "Type")).run Tryz.prog w = (loadVar 262 ⟨p, 0, none⟩).run Tryz.prog w := by kernel_rfl
theorem mType_f64 (p : Nat) (w : World) (v : Value) (h : w.cell? ⟨p, 0, none⟩ = some v) : (method 625 271 (V_f64 p) "Type").run Tryz.prog w = .ok (358, v) w := by
  rw [show 625 = (625 - 2) + 1 + 1 from rfl, mType1_f64, mType2_f64]
  simp only [Sem.run_bind, mType3_f64, load_f64 p w v h, Result.andThen_ok, Sem.run_pure]
theorem mEncodeColumn1_f64 (k p : Nat) (w : World) : (method (k + 1) 271 (V_f64 p) "EncodeColumn").run Tryz.prog w = (method k 260 (.pointer (some ⟨p, 0, none⟩)) "EncodeColumn").run Tryz.prog w := by kernel_rfl
theorem mEncodeColumn2_f64 (k p : Nat) (w : World) : (method (k + 1) 260 (.pointer (some ⟨p, 0, none⟩)) "EncodeColumn").run Tryz.prog w = (do let v ← receiverAt 260 (.val (.pointer (some ⟨p, 0, none⟩))) false (some "EncodeColumn"); pure (354, v) : Sem (FuncId × Value)).run Tryz.prog w := by kernel_rfl
theorem mEncodeColumn3_f64 (p : Nat) (w : World) : (receiverAt 260 (.val (.pointer (some ⟨p, 0, none⟩))) false (some "EncodeColumn")).run Tryz.prog w = (loadVar 262 ⟨p, 0, none⟩).run Tryz.prog w := by kernel_rfl
theorem mEncodeColumn_f64 (p : Nat) (w : World) (v : Value) (h : w.cell? ⟨p, 0, none⟩ = some v) : (method 625 271 (V_f64 p) "EncodeColumn").run Tryz.prog w = .ok (354, v) w := by
  rw [show 625 = (625 - 2) + 1 + 1 from rfl, mEncodeColumn1_f64, mEncodeColumn2_f64]
  simp only [Sem.run_bind, mEncodeColumn3_f64, load_f64 p w v h, Result.andThen_ok, Sem.run_pure]
theorem mReset_f64 (p : Nat) (w : World) : (method 625 271 (V_f64 p) "Reset").run Tryz.prog w = .ok (355, .pointer (some ⟨p, 0, none⟩)) w := by kernel_rfl
theorem mDecodeColumn_f64 (p : Nat) (w : World) : (method 625 271 (V_f64 p) "DecodeColumn").run Tryz.prog w = .ok (353, .pointer (some ⟨p, 0, none⟩)) w := by kernel_rfl
theorem mIadd_f64 (p : Nat) (w : World) : (method 625 271 (V_f64 p) "given.example/pub-clapboard/impl.add").run Tryz.prog w = .ok (360, V_f64 p) w := by kernel_rfl
theorem mIat_f64 (p : Nat) (w : World) : (method 625 271 (V_f64 p) "given.example/pub-clapboard/impl.at").run Tryz.prog w = .ok (362, V_f64 p) w := by kernel_rfl
theorem taPrep_f64 (p : Nat) (w : World) : (Instr.typeAssert (.iface 271 (V_f64 p)) 76 205 true).run Tryz.prog w = .ok (.tuple #[.nilIface, .bool false]) w := run_typeAssert_lacksB Tryz.underlying205 (by kernel_rfl) (by kernel_rfl) _ _ w
theorem taState_f64 (p : Nat) (w : World) : (Instr.typeAssert (.iface 271 (V_f64 p)) 76 210 true).run Tryz.prog w = .ok (.tuple #[.nilIface, .bool false]) w := run_typeAssert_lacksB Tryz.underlying210 (by kernel_rfl) (by kernel_rfl) _ _ w
theorem taInfer_f64 (p : Nat) (w : World) : (Instr.typeAssert (.iface 271 (V_f64 p)) 89 375 true).run Tryz.prog w = .ok (.tuple #[.nilIface, .bool false]) w := run_typeAssert_lacksB Tryz.underlying375 (by kernel_rfl) (by kernel_rfl) _ _ w
theorem taStateD_f64 (p : Nat) (w : World) : (Instr.typeAssert (.iface 271 (V_f64 p)) 89 380 true).run Tryz.prog w = .ok (.tuple #[.nilIface, .bool false]) w := run_typeAssert_lacksB Tryz.underlying380 (by kernel_rfl) (by kernel_rfl) _ _ w
set_option maxRecDepth 100000 in
set_option maxHeartbeats 1000000 in
theorem colO_f64 (w : World) : Calls Tryz.prog 59 #[.int .i64 14] w fun e w' => e = .returned (.iface 271 (V_f64 w.heap.size)) ∧ w' = w.alloc (.cells #[.slice none 0 0] 262) := by
  go_enter Tryz.func59, Tryz.ntmps59
  simp only [V_f64]
  go_wp2
  go_ret
  exact ⟨rfl, rfl⟩
set_option maxRecDepth 100000 in
set_option maxHeartbeats 1000000 in
theorem col_f64 (w : World) : Calls Tryz.prog 23 #[.int .i64 14] w fun e w' => e = .returned (.iface 271 (V_f64 w.heap.size)) ∧ w' = w.alloc (.cells #[.slice none 0 0] 262) := by
  go_enter Tryz.func23, Tryz.ntmps23
  go_wp2_with (go_at_call 59; (with_reducible refine (colO_f64 _).mono ?_); rintro e w1 ⟨rfl, rfl⟩)
  go_ret
  exact ⟨rfl, rfl⟩
/-- Float64 -/
def K_f64 : Kd := ⟨14, 271, 262, 263, 1, V_f64, "Float64".toUTF8, 8, cells_f64, bytes_f64, kept_f64, 360, 362, 357, 358, 354, 355, 353⟩
theorem ok_f64 : KdOK K_f64 where
  sz := fun r => rfl
  sz0 := by decide
  wd := fun r => rfl
  wd0 := by decide
  wd1 := by decide
  byt := byt_f64
  nm := by decide
  okk := okk_f64
  col := col_f64
  eAdd := fun _ _ => by kernel_rfl
  eAt := fun _ _ => by kernel_rfl
  eRows := fun _ _ => by kernel_rfl
  eType := fun _ _ => by kernel_rfl
  eEnc := fun _ _ => by kernel_rfl
  eReset := fun _ _ => by kernel_rfl
  eDec := fun _ _ => by kernel_rfl
  mAdd := mIadd_f64
  mAt := mIat_f64
  mRows := mRows_f64
  mType := mType_f64
  mEnc := mEncodeColumn_f64
  mReset := mReset_f64
  mDec := mDecodeColumn_f64
  taPrep := taPrep_f64
  taState := taState_f64
  taInfer := taInfer_f64
  taStateD := taStateD_f64
  add := fun p ar n c rs ao m cp xs w h1 h2 h3 h4 h5 _ => add_f64 p ar n c rs ao m cp xs w h1 h2 h3 h4 h5
  rows := rows_Float64
  type := type_Float64
  enc := fun ac n cc rs bp ao m cp bs w hc hrs hb hap hac h0 hn hm => by
    have h := ColFloat64_EncodeColumn ac n cc (rs.map (fun r => r.a.toNat)) bp ao m cp bs w (by rw [← fm1]; exact hc) hb hap hac (by omega) (by omega)
    rw [fm2] at h
    exact h
  reset := fun p w h => reset_Float64 p _ _ w h
  dec := fun p rd bf d ao n rs rest w hrs hR hl h0 h30 hH ho => by
    have h := ColFloat64_DecodeColumn p rd bf d ao n (rs.map (fun r => r.a.toNat)) (by intro x hx; obtain ⟨r, hr, rfl⟩ := List.mem_map.1 hx; (try dsimp only); have := (hrs r hr).1; omega) rest w (by rw [fm2]; exact hR) (by rw [List.length_map]; exact hl) h0 h30 hH ho
    rw [← fm1] at h
    exact h
  at_ := at_f64
/-! ### BFloat16 -/
theorem byt_bf (r : R4) : AllBytes (bytes_bf r) := leV_bytes _ _
theorem okk_bf (r : R4) (hr : Ok4 r) : Ok4 (kept_bf r) := ⟨by show 0 ≤ (((bfR _ * 65536).toNat : Nat) : Int) ∧ (((bfR _ * 65536).toNat : Nat) : Int) < _; have := bfR_range (IntKind.u32.wrap r.a).toNat; omega, ⟨zz0, zz0, zz0⟩⟩
theorem mRows1_bf (k p : Nat) (w : World) : (method (k + 1) 259 (V_bf p) "Rows").run Tryz.prog w = (method k 272 (.pointer (some ⟨p, 0, none⟩)) "Rows").run Tryz.prog w := by kernel_rfl
theorem mRows2_bf (k p : Nat) (w : World) : (method (k + 1) 272 (.pointer (some ⟨p, 0, none⟩)) "Rows").run Tryz.prog w = (do let v ← receiverAt 272 (.val (.pointer (some ⟨p, 0, none⟩))) false (some "Rows"); pure (369, v) : Sem (FuncId × Value)).run Tryz.prog w := by kernel_rfl
theorem mRows3_bf (p : Nat) (w : World) : (receiverAt 272 (.val (.pointer (some ⟨p, 0, none⟩))) false (some "Rows")).run Tryz.prog w = (loadVar 273 ⟨p, 0, none⟩).run Tryz.prog w := by kernel_rfl
theorem mRows_bf (p : Nat) (w : World) (v : Value) (h : w.cell? ⟨p, 0, none⟩ = some v) : (method 625 259 (V_bf p) "Rows").run Tryz.prog w = .ok (369, v) w := by
  rw [show 625 = (625 - 2) + 1 + 1 from rfl, mRows1_bf, mRows2_bf]
  simp only [Sem.run_bind, mRows3_bf, load_bf p w v h, Result.andThen_ok, Sem.run_pure]
theorem mType1_bf (k p : Nat) (w : World) : (method (k + 1) 259 (V_bf p) "Type").run Tryz.prog w = (method k 272 (.pointer (some ⟨p, 0, none⟩)) "Type").run Tryz.prog w := by kernel_rfl
theorem mType2_bf (k p : Nat) (w : World) : (method (k + 1) 272 (.pointer (some ⟨p, 0, none⟩)) "Type").run Tryz.prog w = (do let v ← receiverAt 272 (.val (.pointer (some ⟨p, 0, none⟩))) false (some "Type"); pure (370, v) : Sem (FuncId × Value)).run Tryz.prog w := by kernel_rfl
theorem mType3_bf (p : Nat) (w : World) : (receiverAt 272 (.val (.pointer (some ⟨p, 0, none⟩))) false (some "Type")).run Tryz.prog w = (loadVar 273 ⟨p, 0, none⟩).run Tryz.prog w := by kernel_rfl
theorem mType_bf (p : Nat) (w : World) (v : Value) (h : w.cell? ⟨p, 0, none⟩ = some v) : (method 625 259 (V_bf p) "Type").run Tryz.prog w = .ok (370, v) w := by
  rw [show 625 = (625 - 2) + 1 + 1 from rfl, mType1_bf, mType2_bf]
  simp only [Sem.run_bind, mType3_bf, load_bf p w v h, Result.andThen_ok, Sem.run_pure]
theorem mEncodeColumn1_bf (k p : Nat) (w : World) : (method (k + 1) 259 (V_bf p) "EncodeColumn").run Tryz.prog w = (method k 272 (.pointer (some ⟨p, 0, none⟩)) "EncodeColumn").run Tryz.prog w := by kernel_rfl
theorem mEncodeColumn2_bf (k p : Nat) (w : World) : (method (k + 1) 272 (.pointer (some ⟨p, 0, none⟩)) "EncodeColumn").run Tryz.prog w = (do let v ← receiverAt 272 (.val (.pointer (some ⟨p, 0, none⟩))) false (some "EncodeColumn"); pure (366, v) : Sem (FuncId × Value)).run Tryz.prog w := by kernel_rfl
theorem mEncodeColumn3_bf (p : Nat) (w : World) : (receiverAt 272 (.val (.pointer (some ⟨p, 0, none⟩))) false (some "EncodeColumn")).run Tryz.prog w = (loadVar 273 ⟨p, 0, none⟩).run Tryz.prog w := by kernel_rfl
theorem mEncodeColumn_bf (p : Nat) (w : World) (v : Value) (h : w.cell? ⟨p, 0, none⟩ = some v) : (method 625 259 (V_bf p) "EncodeColumn").run Tryz.prog w = .ok (366, v) w := by
  rw [show 625 = (625 - 2) + 1 + 1 from rfl, mEncodeColumn1_bf, mEncodeColumn2_bf]
  simp only [Sem.run_bind, mEncodeColumn3_bf, load_bf p w v h, Result.andThen_ok, Sem.run_pure]
theorem mReset_bf (p : Nat) (w : World) : (method 625 259 (V_bf p) "Reset").run Tryz.prog w = .ok (367, .pointer (some ⟨p, 0, none⟩)) w := by kernel_rfl
theorem mDecodeColumn_bf (p : Nat) (w : World) : (method 625 259 (V_bf p) "DecodeColumn").run Tryz.prog w = .ok (365, .pointer (some ⟨p, 0, none⟩)) w := by kernel_rfl
theorem mIadd_bf (p : Nat) (w : World) : (method 625 259 (V_bf p) "given.example/pub-clapboard/impl.add").run Tryz.prog w = .ok (349, V_bf p) w := by kernel_rfl
theorem mIat_bf (p : Nat) (w : World) : (method 625 259 (V_bf p) "given.example/pub-clapboard/impl.at").run Tryz.prog w = .ok (351, V_bf p) w := by kernel_rfl
theorem taPrep_bf (p : Nat) (w : World) : (Instr.typeAssert (.iface 259 (V_bf p)) 76 205 true).run Tryz.prog w = .ok (.tuple #[.nilIface, .bool false]) w := run_typeAssert_lacksB Tryz.underlying205 (by kernel_rfl) (by kernel_rfl) _ _ w
theorem taState_bf (p : Nat) (w : World) : (Instr.typeAssert (.iface 259 (V_bf p)) 76 210 true).run Tryz.prog w = .ok (.tuple #[.nilIface, .bool false]) w := run_typeAssert_lacksB Tryz.underlying210 (by kernel_rfl) (by kernel_rfl) _ _ w
theorem taInfer_bf (p : Nat) (w : World) : (Instr.typeAssert (.iface 259 (V_bf p)) 89 375 true).run Tryz.prog w = .ok (.tuple #[.nilIface, .bool false]) w := run_typeAssert_lacksB Tryz.underlying375 (by kernel_rfl) (by kernel_rfl) _ _ w
theorem taStateD_bf (p : Nat) (w : World) : (Instr.typeAssert (.iface 259 (V_bf p)) 89 380 true).run Tryz.prog w = .ok (.tuple #[.nilIface, .bool false]) w := run_typeAssert_lacksB Tryz.underlying380 (by kernel_rfl) (by kernel_rfl) _ _ w
set_option maxRecDepth 100000 in
set_option maxHeartbeats 1000000 in
theorem colO_bf (w : World) : Calls Tryz.prog 59 #[.int .i64 15] w fun e w' => e = .returned (.iface 259 (V_bf w.heap.size)) ∧ w' = w.alloc (.cells #[.slice none 0 0] 273) := by
  go_enter Tryz.func59, Tryz.ntmps59
  simp only [V_bf]
  go_wp2
  go_ret
  exact ⟨rfl, rfl⟩
set_option maxRecDepth 100000 in
set_option maxHeartbeats 1000000 in
theorem col_bf (w : World) : Calls Tryz.prog 23 #[.int .i64 15] w fun e w' => e = .returned (.iface 259 (V_bf w.heap.size)) ∧ w' = w.alloc (.cells #[.slice none 0 0] 273) := by
  go_enter Tryz.func23, Tryz.ntmps23
  go_wp2_with (go_at_call 59; (with_reducible refine (colO_bf _).mono ?_); rintro e w1 ⟨rfl, rfl⟩)
  go_ret
  exact ⟨rfl, rfl⟩
/-- BFloat16 -/
def K_bf : Kd := ⟨15, 259, 273, 22, 1, V_bf, "BFloat16".toUTF8, 2, cells_bf, bytes_bf, kept_bf, 349, 351, 369, 370, 366, 367, 365⟩
theorem ok_bf : KdOK K_bf where
  sz := fun r => rfl
  sz0 := by decide
  wd := fun r => rfl
  wd0 := by decide
  wd1 := by decide
  byt := byt_bf
  nm := by decide
  okk := okk_bf
  col := col_bf
  eAdd := fun _ _ => by kernel_rfl
  eAt := fun _ _ => by kernel_rfl
  eRows := fun _ _ => by kernel_rfl
  eType := fun _ _ => by kernel_rfl
  eEnc := fun _ _ => by kernel_rfl
  eReset := fun _ _ => by kernel_rfl
  eDec := fun _ _ => by kernel_rfl
  mAdd := mIadd_bf
  mAt := mIat_bf
  mRows := mRows_bf
  mType := mType_bf
  mEnc := mEncodeColumn_bf
  mReset := mReset_bf
  mDec := mDecodeColumn_bf
  taPrep := taPrep_bf
  taState := taState_bf
  taInfer := taInfer_bf
  taStateD := taStateD_bf
  add := fun p ar n c rs ao m cp xs w h1 h2 h3 h4 h5 _ => add_bf p ar n c rs ao m cp xs w h1 h2 h3 h4 h5
  rows := rows_BFloat16
  type := type_BFloat16
  enc := fun ac n cc rs bp ao m cp bs w hc hrs hb hap hac h0 hn hm => by
    have h := ColBFloat16_EncodeColumn ac n cc (rs.map (fun r => bfR (IntKind.u32.wrap r.a).toNat)) bp ao m cp bs w (by rw [← fm1]; exact hc) hb hap hac (by omega) (by omega)
    rw [fm2] at h
    exact h
  reset := fun p w h => reset_BFloat16 p _ _ w h
  dec := fun p rd bf d ao n rs rest w hrs hR hl h0 h30 hH ho => by
    have h := ColBFloat16_DecodeColumn p rd bf d ao n (rs.map (fun r => bfR (IntKind.u32.wrap r.a).toNat)) (by intro x hx; obtain ⟨r, hr, rfl⟩ := List.mem_map.1 hx; (try dsimp only); exact bfR_range _) rest w (by rw [fm2]; exact hR) (by rw [List.length_map]; exact hl) h0 h30 hH ho
    rw [← fm1] at h
    exact h
  at_ := at_bf
/-! ### Bool -/
theorem byt_bool (r : R4) : AllBytes (bytes_bool r) := bitV_bytes _
theorem okk_bool (r : R4) (hr : Ok4 r) : Ok4 (kept_bool r) := ⟨by show 0 ≤ (if (!(r.a == 0)) then (1 : Int) else 0) ∧ (if (!(r.a == 0)) then (1 : Int) else 0) < _; split <;> decide, ⟨zz0, zz0, zz0⟩⟩
theorem mRows1_bool (k p : Nat) (w : World) : (method (k + 1) 281 (V_bool p) "Rows").run Tryz.prog w = (method k 274 (.pointer (some ⟨p, 0, none⟩)) "Rows").run Tryz.prog w := by kernel_rfl
theorem mRows2_bool (k p : Nat) (w : World) : (method (k + 1) 274 (.pointer (some ⟨p, 0, none⟩)) "Rows").run Tryz.prog w = (do let v ← receiverAt 274 (.val (.pointer (some ⟨p, 0, none⟩))) false (some "Rows"); pure (379, v) : Sem (FuncId × Value)).run Tryz.prog w := by kernel_rfl
theorem mRows3_bool (p : Nat) (w : World) : (receiverAt 274 (.val (.pointer (some ⟨p, 0, none⟩))) false (some "Rows")).run Tryz.prog w = (loadVar 276 ⟨p, 0, none⟩).run Tryz.prog w := by kernel_rfl
theorem mRows_bool (p : Nat) (w : World) (v : Value) (h : w.cell? ⟨p, 0, none⟩ = some v) : (method 625 281 (V_bool p) "Rows").run Tryz.prog w = .ok (379, v) w := by
  rw [show 625 = (625 - 2) + 1 + 1 from rfl, mRows1_bool, mRows2_bool]
  simp only [Sem.run_bind, mRows3_bool, load_bool p w v h, Result.andThen_ok, Sem.run_pure]
theorem mType1_bool (k p : Nat) (w : World) : (method (k + 1) 281 (V_bool p) "Type").run Tryz.prog w = (method k 274 (.pointer (some ⟨p, 0, none⟩)) "Type").run Tryz.prog w := by kernel_rfl
theorem mType2_bool (k p : Nat) (w : World) : (method (k + 1) 274 (.pointer (some ⟨p, 0, none⟩)) "Type").run Tryz.prog w = (do let v ← receiverAt 274 (.val (.pointer (some ⟨p, 0, none⟩))) false (some "Type"); pure (380, v) : Sem (FuncId × Value)).run Tryz.prog w := by kernel_rfl
theorem mType3_bool (p : Nat) (w : World) : (receiverAt 274 (.val (.pointer (some ⟨p, 0, none⟩))) false (some "Type")).run Tryz.prog w = (loadVar 276 ⟨p, 0, none⟩).run Tryz.prog w := by kernel_rfl
theorem mType_bool (p : Nat) (w : World) (v : Value) (h : w.cell? ⟨p, 0, none⟩ = some v) : (method 625 281 (V_bool p) "Type").run Tryz.prog w = .ok (380, v) w := by
  rw [show 625 = (625 - 2) + 1 + 1 from rfl, mType1_bool, mType2_bool]
  simp only [Sem.run_bind, mType3_bool, load_bool p w v h, Result.andThen_ok, Sem.run_pure]
theorem mEncodeColumn1_bool (k p : Nat) (w : World) : (method (k + 1) 281 (V_bool p) "EncodeColumn").run Tryz.prog w = (method k 274 (.pointer (some ⟨p, 0, none⟩)) "EncodeColumn").run Tryz.prog w := by kernel_rfl
theorem mEncodeColumn2_bool (k p : Nat) (w : World) : (method (k + 1) 274 (.pointer (some ⟨p, 0, none⟩)) "EncodeColumn").run Tryz.prog w = (do let v ← receiverAt 274 (.val (.pointer (some ⟨p, 0, none⟩))) false (some "EncodeColumn"); pure (376, v) : Sem (FuncId × Value)).run Tryz.prog w := by kernel_rfl
theorem mEncodeColumn3_bool (p : Nat) (w : World) : (receiverAt 274 (.val (.pointer (some ⟨p, 0, none⟩))) false (some "EncodeColumn")).run Tryz.prog w = (loadVar 276 ⟨p, 0, none⟩).run Tryz.prog w := by kernel_rfl
theorem mEncodeColumn_bool (p : Nat) (w : World) (v : Value) (h : w.cell? ⟨p, 0, none⟩ = some v) : (method 625 281 (V_bool p) "EncodeColumn").run Tryz.prog w = .ok (376, v) w := by
  rw [show 625 = (625 - 2) + 1 + 1 from rfl, mEncodeColumn1_bool, mEncodeColumn2_bool]
  simp only [Sem.run_bind, mEncodeColumn3_bool, load_bool p w v h, Result.andThen_ok, Sem.run_pure]
theorem mReset_bool (p : Nat) (w : World) : (method 625 281 (V_bool p) "Reset").run Tryz.prog w = .ok (377, .pointer (some ⟨p, 0, none⟩)) w := by kernel_rfl
theorem mDecodeColumn_bool (p : Nat) (w : World) : (method 625 281 (V_bool p) "DecodeColumn").run Tryz.prog w = .ok (375, .pointer (some ⟨p, 0, none⟩)) w := by kernel_rfl
theorem mIadd_bool (p : Nat) (w : World) : (method 625 281 (V_bool p) "given.example/pub-clapboard/impl.add").run Tryz.prog w = .ok (383, V_bool p) w := by kernel_rfl
theorem mIat_bool (p : Nat) (w : World) : (method 625 281 (V_bool p) "given.example/pub-clapboard/impl.at").run Tryz.prog w = .ok (385, V_bool p) w := by kernel_rfl
theorem taPrep_bool (p : Nat) (w : World) : (Instr.typeAssert (.iface 281 (V_bool p)) 76 205 true).run Tryz.prog w = .ok (.tuple #[.nilIface, .bool false]) w := run_typeAssert_lacksB Tryz.underlying205 (by kernel_rfl) (by kernel_rfl) _ _ w
theorem taState_bool (p : Nat) (w : World) : (Instr.typeAssert (.iface 281 (V_bool p)) 76 210 true).run Tryz.prog w = .ok (.tuple #[.nilIface, .bool false]) w := run_typeAssert_lacksB Tryz.underlying210 (by kernel_rfl) (by kernel_rfl) _ _ w
theorem taInfer_bool (p : Nat) (w : World) : (Instr.typeAssert (.iface 281 (V_bool p)) 89 375 true).run Tryz.prog w = .ok (.tuple #[.nilIface, .bool false]) w := run_typeAssert_lacksB Tryz.underlying375 (by kernel_rfl) (by kernel_rfl) _ _ w
theorem taStateD_bool (p : Nat) (w : World) : (Instr.typeAssert (.iface 281 (V_bool p)) 89 380 true).run Tryz.prog w = .ok (.tuple #[.nilIface, .bool false]) w := run_typeAssert_lacksB Tryz.underlying380 (by kernel_rfl) (by kernel_rfl) _ _ w
set_option maxRecDepth 100000 in
set_option maxHeartbeats 1000000 in
theorem colO_bool (w : World) : Calls Tryz.prog 59 #[.int .i64 16] w fun e w' => e = .returned (.iface 281 (V_bool w.heap.size)) ∧ w' = w.alloc (.cells #[.slice none 0 0] 276) := by
  go_enter Tryz.func59, Tryz.ntmps59
  simp only [V_bool]
  go_wp2
  go_ret
  exact ⟨rfl, rfl⟩
set_option maxRecDepth 100000 in
set_option maxHeartbeats 1000000 in
theorem col_bool (w : World) : Calls Tryz.prog 23 #[.int .i64 16] w fun e w' => e = .returned (.iface 281 (V_bool w.heap.size)) ∧ w' = w.alloc (.cells #[.slice none 0 0] 276) := by
  go_enter Tryz.func23, Tryz.ntmps23
  go_wp2_with (go_at_call 59; (with_reducible refine (colO_bool _).mono ?_); rintro e w1 ⟨rfl, rfl⟩)
  go_ret
  exact ⟨rfl, rfl⟩
/-- Bool -/
def K_bool : Kd := ⟨16, 281, 276, 4, 1, V_bool, "Bool".toUTF8, 1, cells_bool, bytes_bool, kept_bool, 383, 385, 379, 380, 376, 377, 375⟩
theorem ok_bool : KdOK K_bool where
  sz := fun r => rfl
  sz0 := by decide
  wd := fun r => rfl
  wd0 := by decide
  wd1 := by decide
  byt := byt_bool
  nm := by decide
  okk := okk_bool
  col := col_bool
  eAdd := fun _ _ => by kernel_rfl
  eAt := fun _ _ => by kernel_rfl
  eRows := fun _ _ => by kernel_rfl
  eType := fun _ _ => by kernel_rfl
  eEnc := fun _ _ => by kernel_rfl
  eReset := fun _ _ => by kernel_rfl
  eDec := fun _ _ => by kernel_rfl
  mAdd := mIadd_bool
  mAt := mIat_bool
  mRows := mRows_bool
  mType := mType_bool
  mEnc := mEncodeColumn_bool
  mReset := mReset_bool
  mDec := mDecodeColumn_bool
  taPrep := taPrep_bool
  taState := taState_bool
  taInfer := taInfer_bool
  taStateD := taStateD_bool
  add := fun p ar n c rs ao m cp xs w h1 h2 h3 h4 h5 _ => add_bool p ar n c rs ao m cp xs w h1 h2 h3 h4 h5
  rows := rows_Bool
  type := type_Bool
  enc := fun ac n cc rs bp ao m cp bs w hc hrs hb hap hac h0 hn hm => by
    have h := ColBool_EncodeColumn ac n cc (rs.map (fun r => !(r.a == 0))) bp ao m cp bs w (by rw [← fm1]; exact hc) hb hap h0 (by omega) (by omega)
    rw [← fm1] at h
    rw [show n * K_bool.width = n from Nat.mul_one n]
    exact h
  reset := fun p w h => reset_Bool p _ _ w h
  dec := fun p rd bf d ao n rs rest w hrs hR hl h0 h30 hH ho => by
    have h := ColBool_DecodeColumn p rd bf d ao n (rs.map (fun r => !(r.a == 0))) rest w (by rw [← fm1]; exact hR) (by rw [List.length_map]; exact hl) h0 h30 hH ho
    rw [← fm1] at h
    exact h
  at_ := at_bool
/-! ### IPv4 -/
theorem byt_ipv4 (r : R4) : AllBytes (bytes_ipv4 r) := leV_bytes _ _
theorem okk_ipv4 (r : R4) (hr : Ok4 r) : Ok4 (kept_ipv4 r) := ⟨by show 0 ≤ IntKind.u32.wrap r.a ∧ IntKind.u32.wrap r.a < _; rw [IntKind.wrap_u32]; omega, ⟨zz0, zz0, zz0⟩⟩
theorem mRows1_ipv4 (k p : Nat) (w : World) : (method (k + 1) 291 (V_ipv4 p) "Rows").run Tryz.prog w = (method k 282 (.pointer (some ⟨p, 0, none⟩)) "Rows").run Tryz.prog w := by kernel_rfl
theorem mRows2_ipv4 (k p : Nat) (w : World) : (method (k + 1) 282 (.pointer (some ⟨p, 0, none⟩)) "Rows").run Tryz.prog w = (do let v ← receiverAt 282 (.val (.pointer (some ⟨p, 0, none⟩))) false (some "Rows"); pure (391, v) : Sem (FuncId × Value)).run Tryz.prog w := by kernel_rfl
theorem mRows3_ipv4 (p : Nat) (w : World) : (receiverAt 282 (.val (.pointer (some ⟨p, 0, none⟩))) false (some "Rows")).run Tryz.prog w = (loadVar 284 ⟨p, 0, none⟩).run Tryz.prog w := by kernel_rfl
theorem mRows_ipv4 (p : Nat) (w : World) (v : Value) (h : w.cell? ⟨p, 0, none⟩ = some v) : (method 625 291 (V_ipv4 p) "Rows").run Tryz.prog w = .ok (391, v) w := by
  rw [show 625 = (625 - 2) + 1 + 1 from rfl, mRows1_ipv4, mRows2_ipv4]
  simp only [Sem.run_bind, mRows3_ipv4, load_ipv4 p w v h, Result.andThen_ok, Sem.run_pure]
theorem mType1_ipv4 (k p : Nat) (w : World) : (method (k + 1) 291 (V_ipv4 p) "Type").run Tryz.prog w = (method k 282 (.pointer (some ⟨p, 0, none⟩)) "Type").run Tryz.prog w := by kernel_rfl
theorem mType2_ipv4 (k p : Nat) (w : World) : (method (k + 1) 282 (.pointer (some ⟨p, 0, none⟩)) "Type").run Tryz.prog w = (do let v ← receiverAt 282 (.val (.pointer (some ⟨p, 0, none⟩))) false (some "Type"); pure (392, v) : Sem (FuncId × Value)).run Tryz.prog w := by kernel_rfl
theorem mType3_ipv4 (p : Nat) (w : World) : (receiverAt 282 (.val (.pointer (some ⟨p, 0, none⟩))) false (some "Type")).run Tryz.prog w = (loadVar 284 ⟨p, 0, none⟩).run Tryz.prog w := by kernel_rfl
theorem mType_ipv4 (p : Nat) (w : World) (v : Value) (h : w.cell? ⟨p, 0, none⟩ = some v) : (method 625 291 (V_ipv4 p) "Type").run Tryz.prog w = .ok (392, v) w := by
  rw [show 625 = (625 - 2) + 1 + 1 from rfl, mType1_ipv4, mType2_ipv4]
  simp only [Sem.run_bind, mType3_ipv4, load_ipv4 p w v h, Result.andThen_ok, Sem.run_pure]
theorem mEncodeColumn1_ipv4 (k p : Nat) (w : World) : (method (k + 1) 291 (V_ipv4 p) "EncodeColumn").run Tryz.prog w = (method k 282 (.pointer (some ⟨p, 0, none⟩)) "EncodeColumn").run Tryz.prog w := by kernel_rfl
theorem mEncodeColumn2_ipv4 (k p : Nat) (w : World) : (method (k + 1) 282 (.pointer (some ⟨p, 0, none⟩)) "EncodeColumn").run Tryz.prog w = (do let v ← receiverAt 282 (.val (.pointer (some ⟨p, 0, none⟩))) false (some "EncodeColumn"); pure (388, v) : Sem (FuncId × Value)).run Tryz.prog w := by kernel_rfl
theorem mEncodeColumn3_ipv4 (p : Nat) (w : World) : (receiverAt 282 (.val (.pointer (some ⟨p, 0, none⟩))) false (some "EncodeColumn")).run Tryz.prog w = (loadVar 284 ⟨p, 0, none⟩).run Tryz.prog w := by kernel_rfl
theorem mEncodeColumn_ipv4 (p : Nat) (w : World) (v : Value) (h : w.cell? ⟨p, 0, none⟩ = some v) : (method 625 291 (V_ipv4 p) "EncodeColumn").run Tryz.prog w = .ok (388, v) w := by
  rw [show 625 = (625 - 2) + 1 + 1 from rfl, mEncodeColumn1_ipv4, mEncodeColumn2_ipv4]
  simp only [Sem.run_bind, mEncodeColumn3_ipv4, load_ipv4 p w v h, Result.andThen_ok, Sem.run_pure]
theorem mReset_ipv4 (p : Nat) (w : World) : (method 625 291 (V_ipv4 p) "Reset").run Tryz.prog w = .ok (389, .pointer (some ⟨p, 0, none⟩)) w := by kernel_rfl
theorem mDecodeColumn_ipv4 (p : Nat) (w : World) : (method 625 291 (V_ipv4 p) "DecodeColumn").run Tryz.prog w = .ok (387, .pointer (some ⟨p, 0, none⟩)) w := by kernel_rfl
theorem mIadd_ipv4 (p : Nat) (w : World) : (method 625 291 (V_ipv4 p) "given.example/pub-clapboard/impl.add").run Tryz.prog w = .ok (394, V_ipv4 p) w := by kernel_rfl
theorem mIat_ipv4 (p : Nat) (w : World) : (method 625 291 (V_ipv4 p) "given.example/pub-clapboard/impl.at").run Tryz.prog w = .ok (396, V_ipv4 p) w := by kernel_rfl
theorem taPrep_ipv4 (p : Nat) (w : World) : (Instr.typeAssert (.iface 291 (V_ipv4 p)) 76 205 true).run Tryz.prog w = .ok (.tuple #[.nilIface, .bool false]) w := run_typeAssert_lacksB Tryz.underlying205 (by kernel_rfl) (by kernel_rfl) _ _ w
theorem taState_ipv4 (p : Nat) (w : World) : (Instr.typeAssert (.iface 291 (V_ipv4 p)) 76 210 true).run Tryz.prog w = .ok (.tuple #[.nilIface, .bool false]) w := run_typeAssert_lacksB Tryz.underlying210 (by kernel_rfl) (by kernel_rfl) _ _ w
theorem taInfer_ipv4 (p : Nat) (w : World) : (Instr.typeAssert (.iface 291 (V_ipv4 p)) 89 375 true).run Tryz.prog w = .ok (.tuple #[.nilIface, .bool false]) w := run_typeAssert_lacksB Tryz.underlying375 (by kernel_rfl) (by kernel_rfl) _ _ w
theorem taStateD_ipv4 (p : Nat) (w : World) : (Instr.typeAssert (.iface 291 (V_ipv4 p)) 89 380 true).run Tryz.prog w = .ok (.tuple #[.nilIface, .bool false]) w := run_typeAssert_lacksB Tryz.underlying380 (by kernel_rfl) (by kernel_rfl) _ _ w
set_option maxRecDepth 100000 in
set_option maxHeartbeats 1000000 in
theorem colO_ipv4 (w : World) : Calls Tryz.prog 59 #[.int .i64 17] w fun e w' => e = .returned (.iface 291 (V_ipv4 w.heap.size)) ∧ w' = w.alloc (.cells #[.slice none 0 0] 284) := by
  go_enter Tryz.func59, Tryz.ntmps59
  simp only [V_ipv4]
  go_wp2
  go_ret
  exact ⟨rfl, rfl⟩
set_option maxRecDepth 100000 in
set_option maxHeartbeats 1000000 in
theorem col_ipv4 (w : World) : Calls Tryz.prog 23 #[.int .i64 17] w fun e w' => e = .returned (.iface 291 (V_ipv4 w.heap.size)) ∧ w' = w.alloc (.cells #[.slice none 0 0] 284) := by
  go_enter Tryz.func23, Tryz.ntmps23
  go_wp2_with (go_at_call 59; (with_reducible refine (colO_ipv4 _).mono ?_); rintro e w1 ⟨rfl, rfl⟩)
  go_ret
  exact ⟨rfl, rfl⟩
/-- IPv4 -/
def K_ipv4 : Kd := ⟨17, 291, 284, 285, 1, V_ipv4, "IPv4".toUTF8, 4, cells_ipv4, bytes_ipv4, kept_ipv4, 394, 396, 391, 392, 388, 389, 387⟩
theorem ok_ipv4 : KdOK K_ipv4 where
  sz := fun r => rfl
  sz0 := by decide
  wd := fun r => rfl
  wd0 := by decide
  wd1 := by decide
  byt := byt_ipv4
  nm := by decide
  okk := okk_ipv4
  col := col_ipv4
  eAdd := fun _ _ => by kernel_rfl
  eAt := fun _ _ => by kernel_rfl
  eRows := fun _ _ => by kernel_rfl
  eType := fun _ _ => by kernel_rfl
  eEnc := fun _ _ => by kernel_rfl
  eReset := fun _ _ => by kernel_rfl
  eDec := fun _ _ => by kernel_rfl
  mAdd := mIadd_ipv4
  mAt := mIat_ipv4
  mRows := mRows_ipv4
  mType := mType_ipv4
  mEnc := mEncodeColumn_ipv4
  mReset := mReset_ipv4
  mDec := mDecodeColumn_ipv4
  taPrep := taPrep_ipv4
  taState := taState_ipv4
  taInfer := taInfer_ipv4
  taStateD := taStateD_ipv4
  add := fun p ar n c rs ao m cp xs w h1 h2 h3 h4 h5 _ => add_ipv4 p ar n c rs ao m cp xs w h1 h2 h3 h4 h5
  rows := rows_IPv4
  type := type_IPv4
  enc := fun ac n cc rs bp ao m cp bs w hc hrs hb hap hac h0 hn hm => by
    have h := ColIPv4_EncodeColumn ac n cc (rs.map (fun r => IntKind.u32.wrap r.a)) bp ao m cp bs w (by rw [← fm1]; exact hc) hb hap hac (by omega) (by omega)
    rw [fm2] at h
    exact h
  reset := fun p w h => reset_IPv4 p _ _ w h
  dec := fun p rd bf d ao n rs rest w hrs hR hl h0 h30 hH ho => by
    have h := ColIPv4_DecodeColumn p rd bf d ao n (rs.map (fun r => IntKind.u32.wrap r.a)) (by intro x hx; obtain ⟨r, hr, rfl⟩ := List.mem_map.1 hx; (try dsimp only); rw [IntKind.wrap_u32]; omega) rest w (by rw [fm2]; exact hR) (by rw [List.length_map]; exact hl) h0 h30 hH ho
    rw [← fm1] at h
    exact h
  at_ := at_ipv4
/-! ### IPv6 -/
theorem byt_ip (r : R4) : AllBytes (bytes_ip r) := lowV_bytes _ _ _
theorem okk_ip (r : R4) (hr : Ok4 r) : Ok4 (kept_ip r) := ⟨hr.1, hr.2.1, zz0, zz0⟩
theorem mRows1_ip (k p : Nat) (w : World) : (method (k + 1) 304 (V_ip p) "Rows").run Tryz.prog w = (method k 292 (.pointer (some ⟨p, 0, none⟩)) "Rows").run Tryz.prog w := by kernel_rfl
theorem mRows2_ip (k p : Nat) (w : World) : (method (k + 1) 292 (.pointer (some ⟨p, 0, none⟩)) "Rows").run Tryz.prog w = (do let v ← receiverAt 292 (.val (.pointer (some ⟨p, 0, none⟩))) false (some "Rows"); pure (402, v) : Sem (FuncId × Value)).run Tryz.prog w := by kernel_rfl
theorem mRows3_ip (p : Nat) (w : World) : (receiverAt 292 (.val (.pointer (some ⟨p, 0, none⟩))) false (some "Rows")).run Tryz.prog w = (loadVar 294 ⟨p, 0, none⟩).run Tryz.prog w := by kernel_rfl
theorem mRows_ip (p : Nat) (w : World) (v : Value) (h : w.cell? ⟨p, 0, none⟩ = some v) : (method 625 304 (V_ip p) "Rows").run Tryz.prog w = .ok (402, v) w := by
  rw [show 625 = (625 - 2) + 1 + 1 from rfl, mRows1_ip, mRows2_ip]
  simp only [Sem.run_bind, mRows3_ip, load_ip p w v h, Result.andThen_ok, Sem.run_pure]
theorem mType1_ip (k p : Nat) (w : World) : (method (k + 1) 304 (V_ip p) "Type").run Tryz.prog w = (method k 292 (.pointer (some ⟨p, 0, none⟩)) "Type").run Tryz.prog w := by kernel_rfl
theorem mType2_ip (k p : Nat) (w : World) : (method (k + 1) 292 (.pointer (some ⟨p, 0, none⟩)) "Type").run Tryz.prog w = (do let v ← receiverAt 292 (.val (.pointer (some ⟨p, 0, none⟩))) false (some "Type"); pure (403, v) : Sem (FuncId × Value)).run Tryz.prog w := by kernel_rfl
theorem mType3_ip (p : Nat) (w : World) : (receiverAt 292 (.val (.pointer (some ⟨p, 0, none⟩))) false (some "Type")).run Tryz.prog w = (loadVar 294 ⟨p, 0, none⟩).run Tryz.prog w := by kernel_rfl
theorem mType_ip (p : Nat) (w : World) (v : Value) (h : w.cell? ⟨p, 0, none⟩ = some v) : (method 625 304 (V_ip p) "Type").run Tryz.prog w = .ok (403, v) w := by
  rw [show 625 = (625 - 2) + 1 + 1 from rfl, mType1_ip, mType2_ip]
  simp only [Sem.run_bind, mType3_ip, load_ip p w v h, Result.andThen_ok, Sem.run_pure]
theorem mEncodeColumn1_ip (k p : Nat) (w : World) : (method (k + 1) 304 (V_ip p) "EncodeColumn").run Tryz.prog w = (method k 292 (.pointer (some ⟨p, 0, none⟩)) "EncodeColumn").run Tryz.prog w := by kernel_rfl
theorem mEncodeColumn2_ip (k p : Nat) (w : World) : (method (k + 1) 292 (.pointer (some ⟨p, 0, none⟩)) "EncodeColumn").run Tryz.prog w = (do let v ← receiverAt 292 (.val (.pointer (some ⟨p, 0, none⟩))) false (some "EncodeColumn"); pure (399, v) : Sem (FuncId × Value)).run Tryz.prog w := by kernel_rfl
theorem mEncodeColumn3_ip (p : Nat) (w : World) : (receiverAt 292 (.val (.pointer (some ⟨p, 0, none⟩))) false (some "EncodeColumn")).run Tryz.prog w = (loadVar 294 ⟨p, 0, none⟩).run Tryz.prog w := by kernel_rfl
theorem mEncodeColumn_ip (p : Nat) (w : World) (v : Value) (h : w.cell? ⟨p, 0, none⟩ = some v) : (method 625 304 (V_ip p) "EncodeColumn").run Tryz.prog w = .ok (399, v) w := by
  rw [show 625 = (625 - 2) + 1 + 1 from rfl, mEncodeColumn1_ip, mEncodeColumn2_ip]
  simp only [Sem.run_bind, mEncodeColumn3_ip, load_ip p w v h, Result.andThen_ok, Sem.run_pure]
theorem mReset_ip (p : Nat) (w : World) : (method 625 304 (V_ip p) "Reset").run Tryz.prog w = .ok (400, .pointer (some ⟨p, 0, none⟩)) w := by kernel_rfl
theorem mDecodeColumn_ip (p : Nat) (w : World) : (method 625 304 (V_ip p) "DecodeColumn").run Tryz.prog w = .ok (398, .pointer (some ⟨p, 0, none⟩)) w := by kernel_rfl
theorem mIadd_ip (p : Nat) (w : World) : (method 625 304 (V_ip p) "given.example/pub-clapboard/impl.add").run Tryz.prog w = .ok (407, V_ip p) w := by kernel_rfl
theorem mIat_ip (p : Nat) (w : World) : (method 625 304 (V_ip p) "given.example/pub-clapboard/impl.at").run Tryz.prog w = .ok (409, V_ip p) w := by kernel_rfl
theorem taPrep_ip (p : Nat) (w : World) : (Instr.typeAssert (.iface 304 (V_ip p)) 76 205 true).run Tryz.prog w = .ok (.tuple #[.nilIface, .bool false]) w := run_typeAssert_lacksB Tryz.underlying205 (by kernel_rfl) (by kernel_rfl) _ _ w
theorem taState_ip (p : Nat) (w : World) : (Instr.typeAssert (.iface 304 (V_ip p)) 76 210 true).run Tryz.prog w = .ok (.tuple #[.nilIface, .bool false]) w := run_typeAssert_lacksB Tryz.underlying210 (by kernel_rfl) (by kernel_rfl) _ _ w
theorem taInfer_ip (p : Nat) (w : World) : (Instr.typeAssert (.iface 304 (V_ip p)) 89 375 true).run Tryz.prog w = .ok (.tuple #[.nilIface, .bool false]) w := run_typeAssert_lacksB Tryz.underlying375 (by kernel_rfl) (by kernel_rfl) _ _ w
theorem taStateD_ip (p : Nat) (w : World) : (Instr.typeAssert (.iface 304 (V_ip p)) 89 380 true).run Tryz.prog w = .ok (.tuple #[.nilIface, .bool false]) w := run_typeAssert_lacksB Tryz.underlying380 (by kernel_rfl) (by kernel_rfl) _ _ w
set_option maxRecDepth 100000 in
set_option maxHeartbeats 1000000 in
theorem colO_ip (w : World) : Calls Tryz.prog 59 #[.int .i64 18] w fun e w' => e = .returned (.iface 304 (V_ip w.heap.size)) ∧ w' = w.alloc (.cells #[.slice none 0 0] 294) := by
  go_enter Tryz.func59, Tryz.ntmps59
  simp only [V_ip]
  go_wp2
  go_ret
  exact ⟨rfl, rfl⟩
set_option maxRecDepth 100000 in
set_option maxHeartbeats 1000000 in
theorem col_ip (w : World) : Calls Tryz.prog 23 #[.int .i64 18] w fun e w' => e = .returned (.iface 304 (V_ip w.heap.size)) ∧ w' = w.alloc (.cells #[.slice none 0 0] 294) := by
  go_enter Tryz.func23, Tryz.ntmps23
  go_wp2_with (go_at_call 59; (with_reducible refine (colO_ip _).mono ?_); rintro e w1 ⟨rfl, rfl⟩)
  go_ret
  exact ⟨rfl, rfl⟩
/-- IPv6 -/
def K_ip : Kd := ⟨18, 304, 294, 296, 16, V_ip, "IPv6".toUTF8, 16, cells_ip, bytes_ip, kept_ip, 407, 409, 402, 403, 399, 400, 398⟩
theorem ok_ip : KdOK K_ip where
  sz := fun r => lowV_len _ _ _
  sz0 := by decide
  wd := fun r => lowV_len _ _ _
  wd0 := by decide
  wd1 := by decide
  byt := byt_ip
  nm := by decide
  okk := okk_ip
  col := col_ip
  eAdd := fun _ _ => by kernel_rfl
  eAt := fun _ _ => by kernel_rfl
  eRows := fun _ _ => by kernel_rfl
  eType := fun _ _ => by kernel_rfl
  eEnc := fun _ _ => by kernel_rfl
  eReset := fun _ _ => by kernel_rfl
  eDec := fun _ _ => by kernel_rfl
  mAdd := mIadd_ip
  mAt := mIat_ip
  mRows := mRows_ip
  mType := mType_ip
  mEnc := mEncodeColumn_ip
  mReset := mReset_ip
  mDec := mDecodeColumn_ip
  taPrep := taPrep_ip
  taState := taState_ip
  taInfer := taInfer_ip
  taStateD := taStateD_ip
  add := fun p ar n c rs ao m cp xs w h1 h2 h3 h4 h5 _ => add_ip p ar n c rs ao m cp xs w h1 h2 h3 h4 h5
  rows := rows_IPv6
  type := type_IPv6
  enc := fun ac n cc rs bp ao m cp bs w hc hrs hb hap hac h0 hn hm => by
    have h := ColIPv6_EncodeColumn ac n cc (rs.map (fun r => lowV r.a r.b 16)) (arrs16 rs) bp ao m cp bs w (by rw [fm2]; exact hc) hb hap (by omega) (by omega)
    rw [fm2] at h
    exact h
  reset := fun p w h => reset_IPv6 p _ _ w h
  dec := fun p rd bf d ao n rs rest w hrs hR hl h0 h30 hH ho => by
    have h := ColIPv6_DecodeColumn p rd bf d ao n (rs.map (fun r => lowV r.a r.b 16)) (arrs16 rs) (by intro x hx; obtain ⟨r, _, rfl⟩ := List.mem_map.1 hx; exact lowV_bytes _ _ _) rest w (by rw [fm2]; exact hR) (by rw [List.length_map]; exact hl) h0 h30 hH ho
    rw [fm2] at h
    exact h
  at_ := at_ip
end Go.Proofs.YtfbohkbpgfnceaaGreatDoor
