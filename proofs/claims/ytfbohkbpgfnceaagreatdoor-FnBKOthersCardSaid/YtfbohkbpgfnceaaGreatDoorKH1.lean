/- What the functions of each kind of column do. -/
import Derived.Test.YtfbohkbpgfnceaaGreatDoorKG1
import Derived.Test.YtfbohkbpgfnceaaGreatDoorKF
import Derived.Stop.Asserts
namespace Go.Proofs.YtfbohkbpgfnceaaGreatDoor
set_option linter.unusedVariables false
set_option linter.unusedSimpArgs false
open Go Go.RowKit
/-! ### Int8 -/
theorem byt_i8 (r : R4) : AllBytes (bytes_i8 r) := by intro u hu; simp [bytes_i8] at hu; subst hu; exact ⟨_, rfl, by rw [wrap_u8]; omega⟩
theorem okk_i8 (r : R4) (hr : Ok4 r) : Ok4 (kept_i8 r) := ⟨by show 0 ≤ (IntKind.i8.wrap r.a) % 256 ∧ (IntKind.i8.wrap r.a) % 256 < _; rw [wrap_i8]; omega, ⟨zz0, zz0, zz0⟩⟩
theorem mRows1_i8 (k p : Nat) (w : World) : (method (k + 1) 109 (V_i8 p) "Rows").run Tryz.prog w = (method k 100 (.pointer (some ⟨p, 0, none⟩)) "Rows").run Tryz.prog w := by kernel_rfl
theorem mRows2_i8 (k p : Nat) (w : World) : (method (k + 1) 100 (.pointer (some ⟨p, 0, none⟩)) "Rows").run Tryz.prog w = (do let v ← receiverAt 100 (.val (.pointer (some ⟨p, 0, none⟩))) false (some "Rows"); pure (202, v) : Sem (FuncId × Value)).run Tryz.prog w := by kernel_rfl
theorem mRows3_i8 (p : Nat) (w : World) : (receiverAt 100 (.val (.pointer (some ⟨p, 0, none⟩))) false (some "Rows")).run Tryz.prog w = (loadVar 102 ⟨p, 0, none⟩).run Tryz.prog w := by kernel_rfl
theorem mRows_i8 (p : Nat) (w : World) (v : Value) (h : w.cell? ⟨p, 0, none⟩ = some v) : (method 625 109 (V_i8 p) "Rows").run Tryz.prog w = .ok (202, v) w := by
  rw [show 625 = (625 - 2) + 1 + 1 from rfl, mRows1_i8, mRows2_i8]
  simp only [Sem.run_bind, mRows3_i8, load_i8 p w v h, Result.andThen_ok, Sem.run_pure]
theorem mType1_i8 (k p : Nat) (w : World) : (method (k + 1) 109 (V_i8 p) "Type").run Tryz.prog w = (method k 100 (.pointer (some ⟨p, 0, none⟩)) "Type").run Tryz.prog w := by kernel_rfl
theorem mType2_i8 (k p : Nat) (w : World) : (method (k + 1) 100 (.pointer (some ⟨p, 0, none⟩)) "Type").run Tryz.prog w = (do let v ← receiverAt 100 (.val (.pointer (some ⟨p, 0, none⟩))) false (some "Type"); pure (203, v) : Sem (FuncId × Value)).run Tryz.prog w := by kernel_rfl
theorem mType3_i8 (p : Nat) (w : World) : (receiverAt 100 (.val (.pointer (some ⟨p, 0, none⟩))) false (some "Type")).run Tryz.prog w = (loadVar 102 ⟨p, 0, none⟩).run Tryz.prog w := by kernel_rfl
theorem mType_i8 (p : Nat) (w : World) (v : Value) (h : w.cell? ⟨p, 0, none⟩ = some v) : (method 625 109 (V_i8 p) "Type").run Tryz.prog w = .ok (203, v) w := by
  rw [show 625 = (625 - 2) + 1 + 1 from rfl, mType1_i8, mType2_i8]
  simp only [Sem.run_bind, mType3_i8, load_i8 p w v h, Result.andThen_ok, Sem.run_pure]
theorem mEncodeColumn1_i8 (k p : Nat) (w : World) : (method (k + 1) 109 (V_i8 p) "EncodeColumn").run Tryz.prog w = (method k 100 (.pointer (some ⟨p, 0, none⟩)) "EncodeColumn").run Tryz.prog w := by kernel_rfl
theorem mEncodeColumn2_i8 (k p : Nat) (w : World) : (method (k + 1) 100 (.pointer (some ⟨p, 0, none⟩)) "EncodeColumn").run Tryz.prog w = (do let v ← receiverAt 100 (.val (.pointer (some ⟨p, 0, none⟩))) false (some "EncodeColumn"); pure (200, v) : Sem (FuncId × Value)).run Tryz.prog w := by kernel_rfl
theorem mEncodeColumn3_i8 (p : Nat) (w : World) : (receiverAt 100 (.val (.pointer (some ⟨p, 0, none⟩))) false (some "EncodeColumn")).run Tryz.prog w = (loadVar 102 ⟨p, 0, none⟩).run Tryz.prog w := by kernel_rfl
theorem mEncodeColumn_i8 (p : Nat) (w : World) (v : Value) (h : w.cell? ⟨p, 0, none⟩ = some v) : (method 625 109 (V_i8 p) "EncodeColumn").run Tryz.prog w = .ok (200, v) w := by
  rw [show 625 = (625 - 2) + 1 + 1 from rfl, mEncodeColumn1_i8, mEncodeColumn2_i8]
  simp only [Sem.run_bind, mEncodeColumn3_i8, load_i8 p w v h, Result.andThen_ok, Sem.run_pure]
theorem mReset_i8 (p : Nat) (w : World) : (method 625 109 (V_i8 p) "Reset").run Tryz.prog w = .ok (201, .pointer (some ⟨p, 0, none⟩)) w := by kernel_rfl
theorem mDecodeColumn_i8 (p : Nat) (w : World) : (method 625 109 (V_i8 p) "DecodeColumn").run Tryz.prog w = .ok (199, .pointer (some ⟨p, 0, none⟩)) w := by kernel_rfl
theorem mIadd_i8 (p : Nat) (w : World) : (method 625 109 (V_i8 p) "given.example/pub-clapboard/impl.add").run Tryz.prog w = .ok (206, V_i8 p) w := by kernel_rfl
theorem mIat_i8 (p : Nat) (w : World) : (method 625 109 (V_i8 p) "given.example/pub-clapboard/impl.at").run Tryz.prog w = .ok (208, V_i8 p) w := by kernel_rfl
theorem taPrep_i8 (p : Nat) (w : World) : (Instr.typeAssert (.iface 109 (V_i8 p)) 76 205 true).run Tryz.prog w = .ok (.tuple #[.nilIface, .bool false]) w := run_typeAssert_lacksB Tryz.underlying205 (by kernel_rfl) (by kernel_rfl) _ _ w
theorem taState_i8 (p : Nat) (w : World) : (Instr.typeAssert (.iface 109 (V_i8 p)) 76 210 true).run Tryz.prog w = .ok (.tuple #[.nilIface, .bool false]) w := run_typeAssert_lacksB Tryz.underlying210 (by kernel_rfl) (by kernel_rfl) _ _ w
theorem taInfer_i8 (p : Nat) (w : World) : (Instr.typeAssert (.iface 109 (V_i8 p)) 89 375 true).run Tryz.prog w = .ok (.tuple #[.nilIface, .bool false]) w := run_typeAssert_lacksB Tryz.underlying375 (by kernel_rfl) (by kernel_rfl) _ _ w
theorem taStateD_i8 (p : Nat) (w : World) : (Instr.typeAssert (.iface 109 (V_i8 p)) 89 380 true).run Tryz.prog w = .ok (.tuple #[.nilIface, .bool false]) w := run_typeAssert_lacksB Tryz.underlying380 (by kernel_rfl) (by kernel_rfl) _ _ w
set_option maxRecDepth 100000 in
set_option maxHeartbeats 1000000 in
theorem col_i8 (w : World) : Calls Tryz.prog 23 #[.int .i64 1] w fun e w' => e = .returned (.iface 109 (V_i8 w.heap.size)) ∧ w' = w.alloc (.cells #[.slice none 0 0] 102) := by
  go_enter Tryz.func23, Tryz.ntmps23
  simp only [V_i8]
  go_wp2
  go_ret
  exact ⟨rfl, rfl⟩
/-- Int8 -/
def K_i8 : Kd := ⟨1, 109, 102, 103, 1, V_i8, "Int8".toUTF8, 1, cells_i8, bytes_i8, kept_i8, 206, 208, 202, 203, 200, 201, 199⟩
theorem ok_i8 : KdOK K_i8 where
  sz := fun r => rfl
  sz0 := by decide
  wd := fun r => rfl
  wd0 := by decide
  wd1 := by decide
  byt := byt_i8
  nm := by decide
  okk := okk_i8
  col := col_i8
  eAdd := fun _ _ => by kernel_rfl
  eAt := fun _ _ => by kernel_rfl
  eRows := fun _ _ => by kernel_rfl
  eType := fun _ _ => by kernel_rfl
  eEnc := fun _ _ => by kernel_rfl
  eReset := fun _ _ => by kernel_rfl
  eDec := fun _ _ => by kernel_rfl
  mAdd := mIadd_i8
  mAt := mIat_i8
  mRows := mRows_i8
  mType := mType_i8
  mEnc := mEncodeColumn_i8
  mReset := mReset_i8
  mDec := mDecodeColumn_i8
  taPrep := taPrep_i8
  taState := taState_i8
  taInfer := taInfer_i8
  taStateD := taStateD_i8
  add := fun p ar n c rs ao m cp xs w h1 h2 h3 h4 h5 _ => add_i8 p ar n c rs ao m cp xs w h1 h2 h3 h4 h5
  rows := rows_Int8
  type := type_Int8
  enc := fun ac n cc rs bp ao m cp bs w hc hrs hb hap hac h0 hn hm => by
    have h := ColInt8_EncodeColumn ac n cc (rs.map (fun r => IntKind.i8.wrap r.a)) bp ao m cp bs w (by rw [← fm1]; exact hc) hb hap hac (by omega) (by omega)
    rw [← fm1] at h
    rw [show n * K_i8.width = n from Nat.mul_one n]
    exact h
  reset := fun p w h => reset_Int8 p _ _ w h
  dec := fun p rd bf d ao n rs rest w hrs hR hl h0 h30 hH ho => by
    have h := ColInt8_DecodeColumn p rd bf d ao n (rs.map (fun r => IntKind.i8.wrap r.a)) (by intro x hx; obtain ⟨r, hr, rfl⟩ := List.mem_map.1 hx; (try dsimp only); rw [wrap_i8]; omega) rest w (by rw [← fm1]; exact hR) (by rw [List.length_map]; exact hl) h0 h30 hH ho
    rw [← fm1] at h
    exact h
  at_ := at_i8
/-! ### Int16 -/
theorem byt_i16 (r : R4) : AllBytes (bytes_i16 r) := leV_bytes _ _
theorem okk_i16 (r : R4) (hr : Ok4 r) : Ok4 (kept_i16 r) := ⟨by show 0 ≤ (IntKind.i16.wrap r.a) % 65536 ∧ (IntKind.i16.wrap r.a) % 65536 < _; rw [wrap_i16]; omega, ⟨zz0, zz0, zz0⟩⟩
theorem mRows1_i16 (k p : Nat) (w : World) : (method (k + 1) 119 (V_i16 p) "Rows").run Tryz.prog w = (method k 110 (.pointer (some ⟨p, 0, none⟩)) "Rows").run Tryz.prog w := by kernel_rfl
theorem mRows2_i16 (k p : Nat) (w : World) : (method (k + 1) 110 (.pointer (some ⟨p, 0, none⟩)) "Rows").run Tryz.prog w = (do let v ← receiverAt 110 (.val (.pointer (some ⟨p, 0, none⟩))) false (some "Rows"); pure (214, v) : Sem (FuncId × Value)).run Tryz.prog w := by kernel_rfl
theorem mRows3_i16 (p : Nat) (w : World) : (receiverAt 110 (.val (.pointer (some ⟨p, 0, none⟩))) false (some "Rows")).run Tryz.prog w = (loadVar 112 ⟨p, 0, none⟩).run Tryz.prog w := by kernel_rfl
theorem mRows_i16 (p : Nat) (w : World) (v : Value) (h : w.cell? ⟨p, 0, none⟩ = some v) : (method 625 119 (V_i16 p) "Rows").run Tryz.prog w = .ok (214, v) w := by
  rw [show 625 = (625 - 2) + 1 + 1 from rfl, mRows1_i16, mRows2_i16]
  simp only [Sem.run_bind, mRows3_i16, load_i16 p w v h, Result.andThen_ok, Sem.run_pure]
theorem mType1_i16 (k p : Nat) (w : World) : (method (k + 1) 119 (V_i16 p) "Type").run Tryz.prog w = (method k 110 (.pointer (some ⟨p, 0, none⟩)) "Type").run Tryz.prog w := by kernel_rfl
theorem mType2_i16 (k p : Nat) (w : World) : (method (k + 1) 110 (.pointer (some ⟨p, 0, none⟩)) "Type").run Tryz.prog w = (do let v ← receiverAt 110 (.val (.pointer (some ⟨p, 0, none⟩))) false (some "Type"); pure (215, v) : Sem (FuncId × Value)).run Tryz.prog w := by kernel_rfl
theorem mType3_i16 (p : Nat) (w : World) : (receiverAt 110 (.val (.pointer (some ⟨p, 0, none⟩))) false (some "Type")).run Tryz.prog w = (loadVar 112 ⟨p, 0, none⟩).run Tryz.prog w := by kernel_rfl
theorem mType_i16 (p : Nat) (w : World) (v : Value) (h : w.cell? ⟨p, 0, none⟩ = some v) : (method 625 119 (V_i16 p) "Type").run Tryz.prog w = .ok (215, v) w := by
  rw [show 625 = (625 - 2) + 1 + 1 from rfl, mType1_i16, mType2_i16]
  simp only [Sem.run_bind, mType3_i16, load_i16 p w v h, Result.andThen_ok, Sem.run_pure]
theorem mEncodeColumn1_i16 (k p : Nat) (w : World) : (method (k + 1) 119 (V_i16 p) "EncodeColumn").run Tryz.prog w = (method k 110 (.pointer (some ⟨p, 0, none⟩)) "EncodeColumn").run Tryz.prog w := by kernel_rfl
theorem mEncodeColumn2_i16 (k p : Nat) (w : World) : (method (k + 1) 110 (.pointer (some ⟨p, 0, none⟩)) "EncodeColumn").run Tryz.prog w = (do let v ← receiverAt 110 (.val (.pointer (some ⟨p, 0, none⟩))) false (some "EncodeColumn"); pure (211, v) : Sem (FuncId × Value)).run Tryz.prog w := by kernel_rfl
theorem mEncodeColumn3_i16 (p : Nat) (w : World) : (receiverAt 110 (.val (.pointer (some ⟨p, 0, none⟩))) false (some "EncodeColumn")).run Tryz.prog w = (loadVar 112 ⟨p, 0, none⟩).run Tryz.prog w := by kernel_rfl
theorem mEncodeColumn_i16 (p : Nat) (w : World) (v : Value) (h : w.cell? ⟨p, 0, none⟩ = some v) : (method 625 119 (V_i16 p) "EncodeColumn").run Tryz.prog w = .ok (211, v) w := by
  rw [show 625 = (625 - 2) + 1 + 1 from rfl, mEncodeColumn1_i16, mEncodeColumn2_i16]
  simp only [Sem.run_bind, mEncodeColumn3_i16, load_i16 p w v h, Result.andThen_ok, Sem.run_pure]
theorem mReset_i16 (p : Nat) (w : World) : (method 625 119 (V_i16 p) "Reset").run Tryz.prog w = .ok (212, .pointer (some ⟨p, 0, none⟩)) w := by kernel_rfl
theorem mDecodeColumn_i16 (p : Nat) (w : World) : (method 625 119 (V_i16 p) "DecodeColumn").run Tryz.prog w = .ok (210, .pointer (some ⟨p, 0, none⟩)) w := by kernel_rfl
theorem mIadd_i16 (p : Nat) (w : World) : (method 625 119 (V_i16 p) "given.example/pub-clapboard/impl.add").run Tryz.prog w = .ok (219, V_i16 p) w := by kernel_rfl
theorem mIat_i16 (p : Nat) (w : World) : (method 625 119 (V_i16 p) "given.example/pub-clapboard/impl.at").run Tryz.prog w = .ok (221, V_i16 p) w := by kernel_rfl
theorem taPrep_i16 (p : Nat) (w : World) : (Instr.typeAssert (.iface 119 (V_i16 p)) 76 205 true).run Tryz.prog w = .ok (.tuple #[.nilIface, .bool false]) w := run_typeAssert_lacksB Tryz.underlying205 (by kernel_rfl) (by kernel_rfl) _ _ w
theorem taState_i16 (p : Nat) (w : World) : (Instr.typeAssert (.iface 119 (V_i16 p)) 76 210 true).run Tryz.prog w = .ok (.tuple #[.nilIface, .bool false]) w := run_typeAssert_lacksB Tryz.underlying210 (by kernel_rfl) (by kernel_rfl) _ _ w
theorem taInfer_i16 (p : Nat) (w : World) : (Instr.typeAssert (.iface 119 (V_i16 p)) 89 375 true).run Tryz.prog w = .ok (.tuple #[.nilIface, .bool false]) w := run_typeAssert_lacksB Tryz.underlying375 (by kernel_rfl) (by kernel_rfl) _ _ w
theorem taStateD_i16 (p : Nat) (w : World) : (Instr.typeAssert (.iface 119 (V_i16 p)) 89 380 true).run Tryz.prog w = .ok (.tuple #[.nilIface, .bool false]) w := run_typeAssert_lacksB Tryz.underlying380 (by kernel_rfl) (by kernel_rfl) _ _ w
set_option maxRecDepth 100000 in
set_option maxHeartbeats 1000000 in
theorem col_i16 (w : World) : Calls Tryz.prog 23 #[.int .i64 2] w fun e w' => e = .returned (.iface 119 (V_i16 w.heap.size)) ∧ w' = w.alloc (.cells #[.slice none 0 0] 112) := by
  go_enter Tryz.func23, Tryz.ntmps23
  simp only [V_i16]
  go_wp2
  go_ret
  exact ⟨rfl, rfl⟩
/-- Int16 -/
def K_i16 : Kd := ⟨2, 119, 112, 113, 1, V_i16, "Int16".toUTF8, 2, cells_i16, bytes_i16, kept_i16, 219, 221, 214, 215, 211, 212, 210⟩
theorem ok_i16 : KdOK K_i16 where
  sz := fun r => rfl
  sz0 := by decide
  wd := fun r => rfl
  wd0 := by decide
  wd1 := by decide
  byt := byt_i16
  nm := by decide
  okk := okk_i16
  col := col_i16
  eAdd := fun _ _ => by kernel_rfl
  eAt := fun _ _ => by kernel_rfl
  eRows := fun _ _ => by kernel_rfl
  eType := fun _ _ => by kernel_rfl
  eEnc := fun _ _ => by kernel_rfl
  eReset := fun _ _ => by kernel_rfl
  eDec := fun _ _ => by kernel_rfl
  mAdd := mIadd_i16
  mAt := mIat_i16
  mRows := mRows_i16
  mType := mType_i16
  mEnc := mEncodeColumn_i16
  mReset := mReset_i16
  mDec := mDecodeColumn_i16
  taPrep := taPrep_i16
  taState := taState_i16
  taInfer := taInfer_i16
  taStateD := taStateD_i16
  add := fun p ar n c rs ao m cp xs w h1 h2 h3 h4 h5 _ => add_i16 p ar n c rs ao m cp xs w h1 h2 h3 h4 h5
  rows := rows_Int16
  type := type_Int16
  enc := fun ac n cc rs bp ao m cp bs w hc hrs hb hap hac h0 hn hm => by
    have h := ColInt16_EncodeColumn ac n cc (rs.map (fun r => IntKind.i16.wrap r.a)) bp ao m cp bs w (by rw [← fm1]; exact hc) hb hap hac (by omega) (by omega)
    rw [fm2] at h
    exact h
  reset := fun p w h => reset_Int16 p _ _ w h
  dec := fun p rd bf d ao n rs rest w hrs hR hl h0 h30 hH ho => by
    have h := ColInt16_DecodeColumn p rd bf d ao n (rs.map (fun r => IntKind.i16.wrap r.a)) (by intro x hx; obtain ⟨r, hr, rfl⟩ := List.mem_map.1 hx; (try dsimp only); rw [wrap_i16]; omega) rest w (by rw [fm2]; exact hR) (by rw [List.length_map]; exact hl) h0 h30 hH ho
    rw [← fm1] at h
    exact h
  at_ := at_i16
/-! ### Int32 -/
theorem byt_i32 (r : R4) : AllBytes (bytes_i32 r) := leV_bytes _ _
theorem okk_i32 (r : R4) (hr : Ok4 r) : Ok4 (kept_i32 r) := ⟨by show 0 ≤ (IntKind.i32.wrap r.a) % 4294967296 ∧ (IntKind.i32.wrap r.a) % 4294967296 < _; rw [IntKind.wrap_i32]; omega, ⟨zz0, zz0, zz0⟩⟩
theorem mRows1_i32 (k p : Nat) (w : World) : (method (k + 1) 128 (V_i32 p) "Rows").run Tryz.prog w = (method k 120 (.pointer (some ⟨p, 0, none⟩)) "Rows").run Tryz.prog w := by kernel_rfl
theorem mRows2_i32 (k p : Nat) (w : World) : (method (k + 1) 120 (.pointer (some ⟨p, 0, none⟩)) "Rows").run Tryz.prog w = (do let v ← receiverAt 120 (.val (.pointer (some ⟨p, 0, none⟩))) false (some "Rows"); pure (227, v) : Sem (FuncId × Value)).run Tryz.prog w := by kernel_rfl
theorem mRows3_i32 (p : Nat) (w : World) : (receiverAt 120 (.val (.pointer (some ⟨p, 0, none⟩))) false (some "Rows")).run Tryz.prog w = (loadVar 122 ⟨p, 0, none⟩).run Tryz.prog w := by kernel_rfl
theorem mRows_i32 (p : Nat) (w : World) (v : Value) (h : w.cell? ⟨p, 0, none⟩ = some v) : (method 625 128 (V_i32 p) "Rows").run Tryz.prog w = .ok (227, v) w := by
  rw [show 625 = (625 - 2) + 1 + 1 from rfl, mRows1_i32, mRows2_i32]
  simp only [Sem.run_bind, mRows3_i32, load_i32 p w v h, Result.andThen_ok, Sem.run_pure]
theorem mType1_i32 (k p : Nat) (w : World) : (method (k + 1) 128 (V_i32 p) "Type").run Tryz.prog w = (method k 120 (.pointer (some ⟨p, 0, none⟩)) "Type").run Tryz.prog w := by kernel_rfl
theorem mType2_i32 (k p : Nat) (w : World) : (method (k + 1) 120 (.pointer (some ⟨p, 0, none⟩)) "Type").run Tryz.prog w = (do let v ← receiverAt 120 (.val (.pointer (some ⟨p, 0, none⟩))) false (some "Type"); pure (228, v) : Sem (FuncId × Value)).run Tryz.prog w := by kernel_rfl
theorem mType3_i32 (p : Nat) (w : World) : (receiverAt 120 (.val (.pointer (some ⟨p, 0, none⟩))) false (some "Type")).run Tryz.prog w = (loadVar 122 ⟨p, 0, none⟩).run Tryz.prog w := by kernel_rfl
theorem mType_i32 (p : Nat) (w : World) (v : Value) (h : w.cell? ⟨p, 0, none⟩ = some v) : (method 625 128 (V_i32 p) "Type").run Tryz.prog w = .ok (228, v) w := by
  rw [show 625 = (625 - 2) + 1 + 1 from rfl, mType1_i32, mType2_i32]
  simp only [Sem.run_bind, mType3_i32, load_i32 p w v h, Result.andThen_ok, Sem.run_pure]
theorem mEncodeColumn1_i32 (k p : Nat) (w : World) : (method (k + 1) 128 (V_i32 p) "EncodeColumn").run Tryz.prog w = (method k 120 (.pointer (some ⟨p, 0, none⟩)) "EncodeColumn").run Tryz.prog w := by kernel_rfl
theorem mEncodeColumn2_i32 (k p : Nat) (w : World) : (method (k + 1) 120 (.pointer (some ⟨p, 0, none⟩)) "EncodeColumn").run Tryz.prog w = (do let v ← receiverAt 120 (.val (.pointer (some ⟨p, 0, none⟩))) false (some "EncodeColumn"); pure (224, v) : Sem (FuncId × Value)).run Tryz.prog w := by kernel_rfl
theorem mEncodeColumn3_i32 (p : Nat) (w : World) : (receiverAt 120 (.val (.pointer (some ⟨p, 0, none⟩))) false (some "EncodeColumn")).run Tryz.prog w = (loadVar 122 ⟨p, 0, none⟩).run Tryz.prog w := by kernel_rfl
theorem mEncodeColumn_i32 (p : Nat) (w : World) (v : Value) (h : w.cell? ⟨p, 0, none⟩ = some v) : (method 625 128 (V_i32 p) "EncodeColumn").run Tryz.prog w = .ok (224, v) w := by
  rw [show 625 = (625 - 2) + 1 + 1 from rfl, mEncodeColumn1_i32, mEncodeColumn2_i32]
  simp only [Sem.run_bind, mEncodeColumn3_i32, load_i32 p w v h, Result.andThen_ok, Sem.run_pure]
theorem mReset_i32 (p : Nat) (w : World) : (method 625 128 (V_i32 p) "Reset").run Tryz.prog w = .ok (225, .pointer (some ⟨p, 0, none⟩)) w := by kernel_rfl
theorem mDecodeColumn_i32 (p : Nat) (w : World) : (method 625 128 (V_i32 p) "DecodeColumn").run Tryz.prog w = .ok (223, .pointer (some ⟨p, 0, none⟩)) w := by kernel_rfl
theorem mIadd_i32 (p : Nat) (w : World) : (method 625 128 (V_i32 p) "given.example/pub-clapboard/impl.add").run Tryz.prog w = .ok (230, V_i32 p) w := by kernel_rfl
theorem mIat_i32 (p : Nat) (w : World) : (method 625 128 (V_i32 p) "given.example/pub-clapboard/impl.at").run Tryz.prog w = .ok (232, V_i32 p) w := by kernel_rfl
theorem taPrep_i32 (p : Nat) (w : World) : (Instr.typeAssert (.iface 128 (V_i32 p)) 76 205 true).run Tryz.prog w = .ok (.tuple #[.nilIface, .bool false]) w := run_typeAssert_lacksB Tryz.underlying205 (by kernel_rfl) (by kernel_rfl) _ _ w
theorem taState_i32 (p : Nat) (w : World) : (Instr.typeAssert (.iface 128 (V_i32 p)) 76 210 true).run Tryz.prog w = .ok (.tuple #[.nilIface, .bool false]) w := run_typeAssert_lacksB Tryz.underlying210 (by kernel_rfl) (by kernel_rfl) _ _ w
theorem taInfer_i32 (p : Nat) (w : World) : (Instr.typeAssert (.iface 128 (V_i32 p)) 89 375 true).run Tryz.prog w = .ok (.tuple #[.nilIface, .bool false]) w := run_typeAssert_lacksB Tryz.underlying375 (by kernel_rfl) (by kernel_rfl) _ _ w
theorem taStateD_i32 (p : Nat) (w : World) : (Instr.typeAssert (.iface 128 (V_i32 p)) 89 380 true).run Tryz.prog w = .ok (.tuple #[.nilIface, .bool false]) w := run_typeAssert_lacksB Tryz.underlying380 (by kernel_rfl) (by kernel_rfl) _ _ w
set_option maxRecDepth 100000 in
set_option maxHeartbeats 1000000 in
theorem col_i32 (w : World) : Calls Tryz.prog 23 #[.int .i64 3] w fun e w' => e = .returned (.iface 128 (V_i32 w.heap.size)) ∧ w' = w.alloc (.cells #[.slice none 0 0] 122) := by
  go_enter Tryz.func23, Tryz.ntmps23
  simp only [V_i32]
  go_wp2
  go_ret
  exact ⟨rfl, rfl⟩
/-- Int32 -/
def K_i32 : Kd := ⟨3, 128, 122, 21, 1, V_i32, "Int32".toUTF8, 4, cells_i32, bytes_i32, kept_i32, 230, 232, 227, 228, 224, 225, 223⟩
theorem ok_i32 : KdOK K_i32 where
  sz := fun r => rfl
  sz0 := by decide
  wd := fun r => rfl
  wd0 := by decide
  wd1 := by decide
  byt := byt_i32
  nm := by decide
  okk := okk_i32
  col := col_i32
  eAdd := fun _ _ => by kernel_rfl
  eAt := fun _ _ => by kernel_rfl
  eRows := fun _ _ => by kernel_rfl
  eType := fun _ _ => by kernel_rfl
  eEnc := fun _ _ => by kernel_rfl
  eReset := fun _ _ => by kernel_rfl
  eDec := fun _ _ => by kernel_rfl
  mAdd := mIadd_i32
  mAt := mIat_i32
  mRows := mRows_i32
  mType := mType_i32
  mEnc := mEncodeColumn_i32
  mReset := mReset_i32
  mDec := mDecodeColumn_i32
  taPrep := taPrep_i32
  taState := taState_i32
  taInfer := taInfer_i32
  taStateD := taStateD_i32
  add := fun p ar n c rs ao m cp xs w h1 h2 h3 h4 h5 _ => add_i32 p ar n c rs ao m cp xs w h1 h2 h3 h4 h5
  rows := rows_Int32
  type := type_Int32
  enc := fun ac n cc rs bp ao m cp bs w hc hrs hb hap hac h0 hn hm => by
    have h := ColInt32_EncodeColumn ac n cc (rs.map (fun r => IntKind.i32.wrap r.a)) bp ao m cp bs w (by rw [← fm1]; exact hc) hb hap hac (by omega) (by omega)
    rw [fm2] at h
    exact h
  reset := fun p w h => reset_Int32 p _ _ w h
  dec := fun p rd bf d ao n rs rest w hrs hR hl h0 h30 hH ho => by
    have h := ColInt32_DecodeColumn p rd bf d ao n (rs.map (fun r => IntKind.i32.wrap r.a)) (by intro x hx; obtain ⟨r, hr, rfl⟩ := List.mem_map.1 hx; (try dsimp only); rw [IntKind.wrap_i32]; omega) rest w (by rw [fm2]; exact hR) (by rw [List.length_map]; exact hl) h0 h30 hH ho
    rw [← fm1] at h
    exact h
  at_ := at_i32
/-! ### Int64 -/
theorem byt_i64 (r : R4) : AllBytes (bytes_i64 r) := leV_bytes _ _
theorem okk_i64 (r : R4) (hr : Ok4 r) : Ok4 (kept_i64 r) := ⟨by show 0 ≤ (IntKind.i64.wrap r.a) % 18446744073709551616 ∧ (IntKind.i64.wrap r.a) % 18446744073709551616 < _; rw [IntKind.wrap_i64]; omega, ⟨zz0, zz0, zz0⟩⟩
theorem mRows1_i64 (k p : Nat) (w : World) : (method (k + 1) 137 (V_i64 p) "Rows").run Tryz.prog w = (method k 129 (.pointer (some ⟨p, 0, none⟩)) "Rows").run Tryz.prog w := by kernel_rfl
theorem mRows2_i64 (k p : Nat) (w : World) : (method (k + 1) 129 (.pointer (some ⟨p, 0, none⟩)) "Rows").run Tryz.prog w = (do let v ← receiverAt 129 (.val (.pointer (some ⟨p, 0, none⟩))) false (some "Rows"); pure (238, v) : Sem (FuncId × Value)).run Tryz.prog w := by kernel_rfl
theorem mRows3_i64 (p : Nat) (w : World) : (receiverAt 129 (.val (.pointer (some ⟨p, 0, none⟩))) false (some "Rows")).run Tryz.prog w = (loadVar 131 ⟨p, 0, none⟩).run Tryz.prog w := by kernel_rfl
theorem mRows_i64 (p : Nat) (w : World) (v : Value) (h : w.cell? ⟨p, 0, none⟩ = some v) : (method 625 137 (V_i64 p) "Rows").run Tryz.prog w = .ok (238, v) w := by
  rw [show 625 = (625 - 2) + 1 + 1 from rfl, mRows1_i64, mRows2_i64]
  simp only [Sem.run_bind, mRows3_i64, load_i64 p w v h, Result.andThen_ok, Sem.run_pure]
theorem mType1_i64 (k p : Nat) (w : World) : (method (k + 1) 137 (V_i64 p) "Type").run Tryz.prog w = (method k 129 (.pointer (some ⟨p, 0, none⟩)) "Type").run Tryz.prog w := by kernel_rfl
theorem mType2_i64 (k p : Nat) (w : World) : (method (k + 1) 129 (.pointer (some ⟨p, 0, none⟩)) "Type").run Tryz.prog w = (do let v ← receiverAt 129 (.val (.pointer (some ⟨p, 0, none⟩))) false (some "Type"); pure (239, v) : Sem (FuncId × Value)).run Tryz.prog w := by kernel_rfl
theorem mType3_i64 (p : Nat) (w : World) : (receiverAt 129 (.val (.pointer (some ⟨p, 0, none⟩))) false (some "Type")).run Tryz.prog w = (loadVar 131 ⟨p, 0, none⟩).run Tryz.prog w := by kernel_rfl
theorem mType_i64 (p : Nat) (w : World) (v : Value) (h : w.cell? ⟨p, 0, none⟩ = some v) : (method 625 137 (V_i64 p) "Type").run Tryz.prog w = .ok (239, v) w := by
  rw [show 625 = (625 - 2) + 1 + 1 from rfl, mType1_i64, mType2_i64]
  simp only [Sem.run_bind, mType3_i64, load_i64 p w v h, Result.andThen_ok, Sem.run_pure]
theorem mEncodeColumn1_i64 (k p : Nat) (w : World) : (method (k + 1) 137 (V_i64 p) "EncodeColumn").run Tryz.prog w = (method k 129 (.pointer (some ⟨p, 0, none⟩)) "EncodeColumn").run Tryz.prog w := by kernel_rfl
theorem mEncodeColumn2_i64 (k p : Nat) (w : World) : (method (k + 1) 129 (.pointer (some ⟨p, 0, none⟩)) "EncodeColumn").run Tryz.prog w = (do let v ← receiverAt 129 (.val (.pointer (some ⟨p, 0, none⟩))) false (some "EncodeColumn"); pure (235, v) : Sem (FuncId × Value)).run Tryz.prog w := by kernel_rfl
theorem mEncodeColumn3_i64 (p : Nat) (w : World) : (receiverAt 129 (.val (.pointer (some ⟨p, 0, none⟩))) false (some "EncodeColumn")).run Tryz.prog w = (loadVar 131 ⟨p, 0, none⟩).run Tryz.prog w := by kernel_rfl
theorem mEncodeColumn_i64 (p : Nat) (w : World) (v : Value) (h : w.cell? ⟨p, 0, none⟩ = some v) : (method 625 137 (V_i64 p) "EncodeColumn").run Tryz.prog w = .ok (235, v) w := by
  rw [show 625 = (625 - 2) + 1 + 1 from rfl, mEncodeColumn1_i64, mEncodeColumn2_i64]
  simp only [Sem.run_bind, mEncodeColumn3_i64, load_i64 p w v h, Result.andThen_ok, Sem.run_pure]
theorem mReset_i64 (p : Nat) (w : World) : (method 625 137 (V_i64 p) "Reset").run Tryz.prog w = .ok (236, .pointer (some ⟨p, 0, none⟩)) w := by kernel_rfl
theorem mDecodeColumn_i64 (p : Nat) (w : World) : (method 625 137 (V_i64 p) "DecodeColumn").run Tryz.prog w = .ok (234, .pointer (some ⟨p, 0, none⟩)) w := by kernel_rfl
theorem mIadd_i64 (p : Nat) (w : World) : (method 625 137 (V_i64 p) "given.example/pub-clapboard/impl.add").run Tryz.prog w = .ok (243, V_i64 p) w := by kernel_rfl
theorem mIat_i64 (p : Nat) (w : World) : (method 625 137 (V_i64 p) "given.example/pub-clapboard/impl.at").run Tryz.prog w = .ok (245, V_i64 p) w := by kernel_rfl
theorem taPrep_i64 (p : Nat) (w : World) : (Instr.typeAssert (.iface 137 (V_i64 p)) 76 205 true).run Tryz.prog w = .ok (.tuple #[.nilIface, .bool false]) w := run_typeAssert_lacksB Tryz.underlying205 (by kernel_rfl) (by kernel_rfl) _ _ w
theorem taState_i64 (p : Nat) (w : World) : (Instr.typeAssert (.iface 137 (V_i64 p)) 76 210 true).run Tryz.prog w = .ok (.tuple #[.nilIface, .bool false]) w := run_typeAssert_lacksB Tryz.underlying210 (by kernel_rfl) (by kernel_rfl) _ _ w
theorem taInfer_i64 (p : Nat) (w : World) : (Instr.typeAssert (.iface 137 (V_i64 p)) 89 375 true).run Tryz.prog w = .ok (.tuple #[.nilIface, .bool false]) w := run_typeAssert_lacksB Tryz.underlying375 (by kernel_rfl) (by kernel_rfl) _ _ w
theorem taStateD_i64 (p : Nat) (w : World) : (Instr.typeAssert (.iface 137 (V_i64 p)) 89 380 true).run Tryz.prog w = .ok (.tuple #[.nilIface, .bool false]) w := run_typeAssert_lacksB Tryz.underlying380 (by kernel_rfl) (by kernel_rfl) _ _ w
set_option maxRecDepth 100000 in
set_option maxHeartbeats 1000000 in
theorem col_i64 (w : World) : Calls Tryz.prog 23 #[.int .i64 4] w fun e w' => e = .returned (.iface 137 (V_i64 w.heap.size)) ∧ w' = w.alloc (.cells #[.slice none 0 0] 131) := by
  go_enter Tryz.func23, Tryz.ntmps23
  simp only [V_i64]
  go_wp2
  go_ret
  exact ⟨rfl, rfl⟩
/-- Int64 -/
def K_i64 : Kd := ⟨4, 137, 131, 2, 1, V_i64, "Int64".toUTF8, 8, cells_i64, bytes_i64, kept_i64, 243, 245, 238, 239, 235, 236, 234⟩
theorem ok_i64 : KdOK K_i64 where
  sz := fun r => rfl
  sz0 := by decide
  wd := fun r => rfl
  wd0 := by decide
  wd1 := by decide
  byt := byt_i64
  nm := by decide
  okk := okk_i64
  col := col_i64
  eAdd := fun _ _ => by kernel_rfl
  eAt := fun _ _ => by kernel_rfl
  eRows := fun _ _ => by kernel_rfl
  eType := fun _ _ => by kernel_rfl
  eEnc := fun _ _ => by kernel_rfl
  eReset := fun _ _ => by kernel_rfl
  eDec := fun _ _ => by kernel_rfl
  mAdd := mIadd_i64
  mAt := mIat_i64
  mRows := mRows_i64
  mType := mType_i64
  mEnc := mEncodeColumn_i64
  mReset := mReset_i64
  mDec := mDecodeColumn_i64
  taPrep := taPrep_i64
  taState := taState_i64
  taInfer := taInfer_i64
  taStateD := taStateD_i64
  add := fun p ar n c rs ao m cp xs w h1 h2 h3 h4 h5 _ => add_i64 p ar n c rs ao m cp xs w h1 h2 h3 h4 h5
  rows := rows_Int64
  type := type_Int64
  enc := fun ac n cc rs bp ao m cp bs w hc hrs hb hap hac h0 hn hm => by
    have h := ColInt64_EncodeColumn ac n cc (rs.map (fun r => IntKind.i64.wrap r.a)) bp ao m cp bs w (by rw [← fm1]; exact hc) hb hap hac (by omega) (by omega)
    rw [fm2] at h
    exact h
  reset := fun p w h => reset_Int64 p _ _ w h
  dec := fun p rd bf d ao n rs rest w hrs hR hl h0 h30 hH ho => by
    have h := ColInt64_DecodeColumn p rd bf d ao n (rs.map (fun r => IntKind.i64.wrap r.a)) (by intro x hx; obtain ⟨r, hr, rfl⟩ := List.mem_map.1 hx; (try dsimp only); rw [IntKind.wrap_i64]; omega) rest w (by rw [fm2]; exact hR) (by rw [List.length_map]; exact hl) h0 h30 hH ho
    rw [← fm1] at h
    exact h
  at_ := at_i64
/-! ### Int128 -/
theorem byt_i128 (r : R4) : AllBytes (bytes_i128 r) := wbyte_bytes _
theorem okk_i128 (r : R4) (hr : Ok4 r) : Ok4 (kept_i128 r) := ⟨hr.1, hr.2.1, zz0, zz0⟩
theorem mRows1_i128 (k p : Nat) (w : World) : (method (k + 1) 151 (V_i128 p) "Rows").run Tryz.prog w = (method k 138 (.pointer (some ⟨p, 0, none⟩)) "Rows").run Tryz.prog w := by kernel_rfl
theorem mRows2_i128 (k p : Nat) (w : World) : (method (k + 1) 138 (.pointer (some ⟨p, 0, none⟩)) "Rows").run Tryz.prog w = (do let v ← receiverAt 138 (.val (.pointer (some ⟨p, 0, none⟩))) false (some "Rows"); pure (251, v) : Sem (FuncId × Value)).run Tryz.prog w := by kernel_rfl
theorem mRows3_i128 (p : Nat) (w : World) : (receiverAt 138 (.val (.pointer (some ⟨p, 0, none⟩))) false (some "Rows")).run Tryz.prog w = (loadVar 140 ⟨p, 0, none⟩).run Tryz.prog w := by kernel_rfl
theorem mRows_i128 (p : Nat) (w : World) (v : Value) (h : w.cell? ⟨p, 0, none⟩ = some v) : (method 625 151 (V_i128 p) "Rows").run Tryz.prog w = .ok (251, v) w := by
  rw [show 625 = (625 - 2) + 1 + 1 from rfl, mRows1_i128, mRows2_i128]
  simp only [Sem.run_bind, mRows3_i128, load_i128 p w v h, Result.andThen_ok, Sem.run_pure]
theorem mType1_i128 (k p : Nat) (w : World) : (method (k + 1) 151 (V_i128 p) "Type").run Tryz.prog w = (method k 138 (.pointer (some ⟨p, 0, none⟩)) "Type").run Tryz.prog w := by kernel_rfl
theorem mType2_i128 (k p : Nat) (w : World) : (method (k + 1) 138 (.pointer (some ⟨p, 0, none⟩)) "Type").run Tryz.prog w = (do let v ← receiverAt 138 (.val (.pointer (some ⟨p, 0, none⟩))) false (some "Type"); pure (252, v) : Sem (FuncId × Value)).run Tryz.prog w := by kernel_rfl
theorem mType3_i128 (p : Nat) (w : World) : (receiverAt 138 (.val (.pointer (some ⟨p, 0, none⟩))) false (some "Type")).run Tryz.prog w = (loadVar 140 ⟨p, 0, none⟩).run Tryz.prog w := by kernel_rfl
theorem mType_i128 (p : Nat) (w : World) (v : Value) (h : w.cell? ⟨p, 0, none⟩ = some v) : (method 625 151 (V_i128 p) "Type").run Tryz.prog w = .ok (252, v) w := by
  rw [show 625 = (625 - 2) + 1 + 1 from rfl, mType1_i128, mType2_i128]
  simp only [Sem.run_bind, mType3_i128, load_i128 p w v h, Result.andThen_ok, Sem.run_pure]
theorem mEncodeColumn1_i128 (k p : Nat) (w : World) : (method (k + 1) 151 (V_i128 p) "EncodeColumn").run Tryz.prog w = (method k 138 (.pointer (some ⟨p, 0, none⟩)) "EncodeColumn").run Tryz.prog w := by kernel_rfl
theorem mEncodeColumn2_i128 (k p : Nat) (w : World) : (method (k + 1) 138 (.pointer (some ⟨p, 0, none⟩)) "EncodeColumn").run Tryz.prog w = (do let v ← receiverAt 138 (.val (.pointer (some ⟨p, 0, none⟩))) false (some "EncodeColumn"); pure (248, v) : Sem (FuncId × Value)).run Tryz.prog w := by kernel_rfl
theorem mEncodeColumn3_i128 (p : Nat) (w : World) : (receiverAt 138 (.val (.pointer (some ⟨p, 0, none⟩))) false (some "EncodeColumn")).run Tryz.prog w = (loadVar 140 ⟨p, 0, none⟩).run Tryz.prog w := by kernel_rfl
theorem mEncodeColumn_i128 (p : Nat) (w : World) (v : Value) (h : w.cell? ⟨p, 0, none⟩ = some v) : (method 625 151 (V_i128 p) "EncodeColumn").run Tryz.prog w = .ok (248, v) w := by
  rw [show 625 = (625 - 2) + 1 + 1 from rfl, mEncodeColumn1_i128, mEncodeColumn2_i128]
  simp only [Sem.run_bind, mEncodeColumn3_i128, load_i128 p w v h, Result.andThen_ok, Sem.run_pure]
theorem mReset_i128 (p : Nat) (w : World) : (method 625 151 (V_i128 p) "Reset").run Tryz.prog w = .ok (249, .pointer (some ⟨p, 0, none⟩)) w := by kernel_rfl
theorem mDecodeColumn_i128 (p : Nat) (w : World) : (method 625 151 (V_i128 p) "DecodeColumn").run Tryz.prog w = .ok (247, .pointer (some ⟨p, 0, none⟩)) w := by kernel_rfl
theorem mIadd_i128 (p : Nat) (w : World) : (method 625 151 (V_i128 p) "given.example/pub-clapboard/impl.add").run Tryz.prog w = .ok (258, V_i128 p) w := by kernel_rfl
theorem mIat_i128 (p : Nat) (w : World) : (method 625 151 (V_i128 p) "given.example/pub-clapboard/impl.at").run Tryz.prog w = .ok (260, V_i128 p) w := by kernel_rfl
theorem taPrep_i128 (p : Nat) (w : World) : (Instr.typeAssert (.iface 151 (V_i128 p)) 76 205 true).run Tryz.prog w = .ok (.tuple #[.nilIface, .bool false]) w := run_typeAssert_lacksB Tryz.underlying205 (by kernel_rfl) (by kernel_rfl) _ _ w
theorem taState_i128 (p : Nat) (w : World) : (Instr.typeAssert (.iface 151 (V_i128 p)) 76 210 true).run Tryz.prog w = .ok (.tuple #[.nilIface, .bool false]) w := run_typeAssert_lacksB Tryz.underlying210 (by kernel_rfl) (by kernel_rfl) _ _ w
theorem taInfer_i128 (p : Nat) (w : World) : (Instr.typeAssert (.iface 151 (V_i128 p)) 89 375 true).run Tryz.prog w = .ok (.tuple #[.nilIface, .bool false]) w := run_typeAssert_lacksB Tryz.underlying375 (by kernel_rfl) (by kernel_rfl) _ _ w
theorem taStateD_i128 (p : Nat) (w : World) : (Instr.typeAssert (.iface 151 (V_i128 p)) 89 380 true).run Tryz.prog w = .ok (.tuple #[.nilIface, .bool false]) w := run_typeAssert_lacksB Tryz.underlying380 (by kernel_rfl) (by kernel_rfl) _ _ w
set_option maxRecDepth 100000 in
set_option maxHeartbeats 1000000 in
theorem col_i128 (w : World) : Calls Tryz.prog 23 #[.int .i64 5] w fun e w' => e = .returned (.iface 151 (V_i128 w.heap.size)) ∧ w' = w.alloc (.cells #[.slice none 0 0] 140) := by
  go_enter Tryz.func23, Tryz.ntmps23
  simp only [V_i128]
  go_wp2
  go_ret
  exact ⟨rfl, rfl⟩
/-- Int128 -/
def K_i128 : Kd := ⟨5, 151, 140, 142, 2, V_i128, "Int128".toUTF8, 16, cells_i128, bytes_i128, kept_i128, 258, 260, 251, 252, 248, 249, 247⟩
theorem ok_i128 : KdOK K_i128 where
  sz := fun r => rfl
  sz0 := by decide
  wd := fun r => rfl
  wd0 := by decide
  wd1 := by decide
  byt := byt_i128
  nm := by decide
  okk := okk_i128
  col := col_i128
  eAdd := fun _ _ => by kernel_rfl
  eAt := fun _ _ => by kernel_rfl
  eRows := fun _ _ => by kernel_rfl
  eType := fun _ _ => by kernel_rfl
  eEnc := fun _ _ => by kernel_rfl
  eReset := fun _ _ => by kernel_rfl
  eDec := fun _ _ => by kernel_rfl
  mAdd := mIadd_i128
  mAt := mIat_i128
  mRows := mRows_i128
  mType := mType_i128
  mEnc := mEncodeColumn_i128
  mReset := mReset_i128
  mDec := mDecodeColumn_i128
  taPrep := taPrep_i128
  taState := taState_i128
  taInfer := taInfer_i128
  taStateD := taStateD_i128
  add := fun p ar n c rs ao m cp xs w h1 h2 h3 h4 h5 _ => add_i128 p ar n c rs ao m cp xs w h1 h2 h3 h4 h5
  rows := rows_Int128
  type := type_Int128
  enc := fun ac n cc rs bp ao m cp bs w hc hrs hb hap hac h0 hn hm => by
    have h := ColInt128_EncodeColumn ac n cc (rs.map (fun r => [r.a, r.b])) (words2 hrs) bp ao m cp bs w (by rw [fm2]; exact hc) hb hap (by omega) (by omega)
    rw [fm2] at h
    exact h
  reset := fun p w h => reset_Int128 p _ _ w h
  dec := fun p rd bf d ao n rs rest w hrs hR hl h0 h30 hH ho => by
    have h := ColInt128_DecodeColumn p rd bf d ao n (rs.map (fun r => [r.a, r.b])) (words2 hrs) rest w (by rw [fm2]; exact hR) (by rw [List.length_map]; exact hl) h0 h30 hH ho
    rw [fm2] at h
    exact h
  at_ := at_i128
/-! ### Int256 -/
theorem byt_i256 (r : R4) : AllBytes (bytes_i256 r) := wbyte_bytes _
theorem okk_i256 (r : R4) (hr : Ok4 r) : Ok4 (kept_i256 r) := hr
theorem mRows1_i256 (k p : Nat) (w : World) : (method (k + 1) 162 (V_i256 p) "Rows").run Tryz.prog w = (method k 152 (.pointer (some ⟨p, 0, none⟩)) "Rows").run Tryz.prog w := by kernel_rfl
theorem mRows2_i256 (k p : Nat) (w : World) : (method (k + 1) 152 (.pointer (some ⟨p, 0, none⟩)) "Rows").run Tryz.prog w = (do let v ← receiverAt 152 (.val (.pointer (some ⟨p, 0, none⟩))) false (some "Rows"); pure (266, v) : Sem (FuncId × Value)).run Tryz.prog w := by kernel_rfl
theorem mRows3_i256 (p : Nat) (w : World) : (receiverAt 152 (.val (.pointer (some ⟨p, 0, none⟩))) false (some "Rows")).run Tryz.prog w = (loadVar 154 ⟨p, 0, none⟩).run Tryz.prog w := by kernel_rfl
theorem mRows_i256 (p : Nat) (w : World) (v : Value) (h : w.cell? ⟨p, 0, none⟩ = some v) : (method 625 162 (V_i256 p) "Rows").run Tryz.prog w = .ok (266, v) w := by
  rw [show 625 = (625 - 2) + 1 + 1 from rfl, mRows1_i256, mRows2_i256]
  simp only [Sem.run_bind, mRows3_i256, load_i256 p w v h, Result.andThen_ok, Sem.run_pure]
theorem mType1_i256 (k p : Nat) (w : World) : (method (k + 1) 162 (V_i256 p) "Type").run Tryz.prog w = (method k 152 (.pointer (some ⟨p, 0, none⟩)) "Type").run Tryz.prog w := by kernel_rfl
theorem mType2_i256 (k p : Nat) (w : World) : (method (k + 1) 152 (.pointer (some ⟨p, 0, none⟩)) "Type").run Tryz.prog w = (do let v ← receiverAt 152 (.val (.pointer (some ⟨p, 0, none⟩))) false (some "Type"); pure (267, v) : Sem (FuncId × Value)).run Tryz.prog w := by kernel_rfl
theorem mType3_i256 (p : Nat) (w : World) : (receiverAt 152 (.val (.pointer (some ⟨p, 0, none⟩))) false (some "Type")).run Tryz.prog w = (loadVar 154 ⟨p, 0, none⟩).run Tryz.prog w := by kernel_rfl
theorem mType_i256 (p : Nat) (w : World) (v : Value) (h : w.cell? ⟨p, 0, none⟩ = some v) : (method 625 162 (V_i256 p) "Type").run Tryz.prog w = .ok (267, v) w := by
  rw [show 625 = (625 - 2) + 1 + 1 from rfl, mType1_i256, mType2_i256]
  simp only [Sem.run_bind, mType3_i256, load_i256 p w v h, Result.andThen_ok, Sem.run_pure]
theorem mEncodeColumn1_i256 (k p : Nat) (w : World) : (method (k + 1) 162 (V_i256 p) "EncodeColumn").run Tryz.prog w = (method k 152 (.pointer (some ⟨p, 0, none⟩)) "EncodeColumn").run Tryz.prog w := by kernel_rfl
theorem mEncodeColumn2_i256 (k p : Nat) (w : World) : (method (k + 1) 152 (.pointer (some ⟨p, 0, none⟩)) "EncodeColumn").run Tryz.prog w = (do let v ← receiverAt 152 (.val (.pointer (some ⟨p, 0, none⟩))) false (some "EncodeColumn"); pure (263, v) : Sem (FuncId × Value)).run Tryz.prog w := by kernel_rfl
theorem mEncodeColumn3_i256 (p : Nat) (w : World) : (receiverAt 152 (.val (.pointer (some ⟨p, 0, none⟩))) false (some "EncodeColumn")).run Tryz.prog w = (loadVar 154 ⟨p, 0, none⟩).run Tryz.prog w := by kernel_rfl
theorem mEncodeColumn_i256 (p : Nat) (w : World) (v : Value) (h : w.cell? ⟨p, 0, none⟩ = some v) : (method 625 162 (V_i256 p) "EncodeColumn").run Tryz.prog w = .ok (263, v) w := by
  rw [show 625 = (625 - 2) + 1 + 1 from rfl, mEncodeColumn1_i256, mEncodeColumn2_i256]
  simp only [Sem.run_bind, mEncodeColumn3_i256, load_i256 p w v h, Result.andThen_ok, Sem.run_pure]
theorem mReset_i256 (p : Nat) (w : World) : (method 625 162 (V_i256 p) "Reset").run Tryz.prog w = .ok (264, .pointer (some ⟨p, 0, none⟩)) w := by kernel_rfl
theorem mDecodeColumn_i256 (p : Nat) (w : World) : (method 625 162 (V_i256 p) "DecodeColumn").run Tryz.prog w = .ok (262, .pointer (some ⟨p, 0, none⟩)) w := by kernel_rfl
theorem mIadd_i256 (p : Nat) (w : World) : (method 625 162 (V_i256 p) "given.example/pub-clapboard/impl.add").run Tryz.prog w = .ok (271, V_i256 p) w := by kernel_rfl
theorem mIat_i256 (p : Nat) (w : World) : (method 625 162 (V_i256 p) "given.example/pub-clapboard/impl.at").run Tryz.prog w = .ok (273, V_i256 p) w := by kernel_rfl
theorem taPrep_i256 (p : Nat) (w : World) : (Instr.typeAssert (.iface 162 (V_i256 p)) 76 205 true).run Tryz.prog w = .ok (.tuple #[.nilIface, .bool false]) w := run_typeAssert_lacksB Tryz.underlying205 (by kernel_rfl) (by kernel_rfl) _ _ w
theorem taState_i256 (p : Nat) (w : World) : (Instr.typeAssert (.iface 162 (V_i256 p)) 76 210 true).run Tryz.prog w = .ok (.tuple #[.nilIface, .bool false]) w := run_typeAssert_lacksB Tryz.underlying210 (by kernel_rfl) (by kernel_rfl) _ _ w
theorem taInfer_i256 (p : Nat) (w : World) : (Instr.typeAssert (.iface 162 (V_i256 p)) 89 375 true).run Tryz.prog w = .ok (.tuple #[.nilIface, .bool false]) w := run_typeAssert_lacksB Tryz.underlying375 (by kernel_rfl) (by kernel_rfl) _ _ w
theorem taStateD_i256 (p : Nat) (w : World) : (Instr.typeAssert (.iface 162 (V_i256 p)) 89 380 true).run Tryz.prog w = .ok (.tuple #[.nilIface, .bool false]) w := run_typeAssert_lacksB Tryz.underlying380 (by kernel_rfl) (by kernel_rfl) _ _ w
set_option maxRecDepth 100000 in
set_option maxHeartbeats 1000000 in
theorem col_i256 (w : World) : Calls Tryz.prog 23 #[.int .i64 6] w fun e w' => e = .returned (.iface 162 (V_i256 w.heap.size)) ∧ w' = w.alloc (.cells #[.slice none 0 0] 154) := by
  go_enter Tryz.func23, Tryz.ntmps23
  simp only [V_i256]
  go_wp2
  go_ret
  exact ⟨rfl, rfl⟩
/-- Int256 -/
def K_i256 : Kd := ⟨6, 162, 154, 156, 4, V_i256, "Int256".toUTF8, 32, cells_i256, bytes_i256, kept_i256, 271, 273, 266, 267, 263, 264, 262⟩
theorem ok_i256 : KdOK K_i256 where
  sz := fun r => rfl
  sz0 := by decide
  wd := fun r => rfl
  wd0 := by decide
  wd1 := by decide
  byt := byt_i256
  nm := by decide
  okk := okk_i256
  col := col_i256
  eAdd := fun _ _ => by kernel_rfl
  eAt := fun _ _ => by kernel_rfl
  eRows := fun _ _ => by kernel_rfl
  eType := fun _ _ => by kernel_rfl
  eEnc := fun _ _ => by kernel_rfl
  eReset := fun _ _ => by kernel_rfl
  eDec := fun _ _ => by kernel_rfl
  mAdd := mIadd_i256
  mAt := mIat_i256
  mRows := mRows_i256
  mType := mType_i256
  mEnc := mEncodeColumn_i256
  mReset := mReset_i256
  mDec := mDecodeColumn_i256
  taPrep := taPrep_i256
  taState := taState_i256
  taInfer := taInfer_i256
  taStateD := taStateD_i256
  add := fun p ar n c rs ao m cp xs w h1 h2 h3 h4 h5 _ => add_i256 p ar n c rs ao m cp xs w h1 h2 h3 h4 h5
  rows := rows_Int256
  type := type_Int256
  enc := fun ac n cc rs bp ao m cp bs w hc hrs hb hap hac h0 hn hm => by
    have h := ColInt256_EncodeColumn ac n cc (rs.map (fun r => [r.a, r.b, r.c, r.d])) (words4 hrs) bp ao m cp bs w (by rw [fm2]; exact hc) hb hap (by omega) (by omega)
    rw [fm2] at h
    exact h
  reset := fun p w h => reset_Int256 p _ _ w h
  dec := fun p rd bf d ao n rs rest w hrs hR hl h0 h30 hH ho => by
    have h := ColInt256_DecodeColumn p rd bf d ao n (rs.map (fun r => [r.a, r.b, r.c, r.d])) (words4 hrs) rest w (by rw [fm2]; exact hR) (by rw [List.length_map]; exact hl) h0 h30 hH ho
    rw [fm2] at h
    exact h
  at_ := at_i256
end Go.Proofs.YtfbohkbpgfnceaaGreatDoor
