/- What the functions of each kind of column do. -/
import Derived.Test.YteimeeepcfcfcaaGreatDoorKG2
import Derived.Test.YteimeeepcfcfcaaGreatDoorKF
import Derived.Stop.Asserts
namespace Go.Proofs.YteimeeepcfcfcaaGreatDoor
set_option maxRecDepth 100000
set_option maxHeartbeats 2000000
set_option linter.unusedVariables false
set_option linter.unusedSimpArgs false
open Go Go.RowKit
/-! ### UInt8 -/
theorem byt_u8 (r : R4) : AllBytes (bytes_u8 r) := by intro u hu; simp [bytes_u8] at hu; subst hu; exact ⟨_, rfl, by rw [wrap_u8]; omega⟩
theorem okk_u8 (r : R4) (hr : Ok4 r) : Ok4 (kept_u8 r) := ⟨by show 0 ≤ IntKind.u8.wrap r.a ∧ IntKind.u8.wrap r.a < _; rw [wrap_u8]; omega, ⟨zz0, zz0, zz0⟩⟩
theorem mRows1_u8 (k p : Nat) (w : World) : (method (k + 1) 178 (V_u8 p) "Rows").run Tryz.prog w = (method k 171 (.pointer (some ⟨p, 0, none⟩)) "Rows").run Tryz.prog w := by kernel_rfl
theorem mRows2_u8 (k p : Nat) (w : World) : (method (k + 1) 171 (.pointer (some ⟨p, 0, none⟩)) "Rows").run Tryz.prog w = (do let v ← receiverAt 171 (.val (.pointer (some ⟨p, 0, none⟩))) false (some "Rows"); pure (289, v) : Sem (FuncId × Value)).run Tryz.prog w := by kernel_rfl
theorem mRows3_u8 (p : Nat) (w : World) : (receiverAt 171 (.val (.pointer (some ⟨p, 0, none⟩))) false (some "Rows")).run Tryz.prog w = (loadVar 172 ⟨p, 0, none⟩).run Tryz.prog w := by kernel_rfl
theorem mRows_u8 (p : Nat) (w : World) (v : Value) (h : w.cell? ⟨p, 0, none⟩ = some v) : (method 634 178 (V_u8 p) "Rows").run Tryz.prog w = .ok (289, v) w := by
  rw [show 634 = (634 - 2) + 1 + 1 from rfl, mRows1_u8, mRows2_u8]
  simp only [Sem.run_bind, mRows3_u8, load_u8 p w v h, Result.andThen_ok, Sem.run_pure]
theorem mType1_u8 (k p : Nat) (w : World) : (method (k + 1) 178 (V_u8 p) "Type").run Tryz.prog w = (method k 171 (.pointer (some ⟨p, 0, none⟩)) "Type").run Tryz.prog w := by kernel_rfl
theorem mType2_u8 (k p : Nat) (w : World) : (method (k + 1) 171 (.pointer (some ⟨p, 0, none⟩)) "Type").run Tryz.prog w = (do let v ← receiverAt 171 (.val (.pointer (some ⟨p, 0, none⟩))) false (some "Type"); pure (290, v) : Sem (FuncId × Value)).run Tryz.prog w := by kernel_rfl
theorem mType3_u8 (p : Nat) (w : World) : (receiverAt 171 (.val (.pointer (some ⟨p, 0, none⟩))) false (some "Type")).run Tryz.prog w = (loadVar 172 ⟨p, 0, none⟩).run Tryz.prog w := by kernel_rfl
theorem mType_u8 (p : Nat) (w : World) (v : Value) (h : w.cell? ⟨p, 0, none⟩ = some v) : (method 634 178 (V_u8 p) "Type").run Tryz.prog w = .ok (290, v) w := by
  rw [show 634 = (634 - 2) + 1 + 1 from rfl, mType1_u8, mType2_u8]
  simp only [Sem.run_bind, mType3_u8, load_u8 p w v h, Result.andThen_ok, Sem.run_pure]
theorem mEncodeColumn1_u8 (k p : Nat) (w : World) : (method (k + 1) 178 (V_u8 p) "EncodeColumn").run Tryz.prog w = (method k 171 (.pointer (some ⟨p, 0, none⟩)) "EncodeColumn").run Tryz.prog w := by kernel_rfl
theorem mEncodeColumn2_u8 (k p : Nat) (w : World) : (method (k + 1) 171 (.pointer (some ⟨p, 0, none⟩)) "EncodeColumn").run Tryz.prog w = (do let v ← receiverAt 171 (.val (.pointer (some ⟨p, 0, none⟩))) false (some "EncodeColumn"); pure (286, v) : Sem (FuncId × Value)).run Tryz.prog w := by kernel_rfl
theorem mEncodeColumn3_u8 (p : Nat) (w : World) : (receiverAt 171 (.val (.pointer (some ⟨p, 0, none⟩))) false (some "EncodeColumn")).run Tryz.prog w = (loadVar 172 ⟨p, 0, none⟩).run Tryz.prog w := by kernel_rfl
theorem mEncodeColumn_u8 (p : Nat) (w : World) (v : Value) (h : w.cell? ⟨p, 0, none⟩ = some v) : (method 634 178 (V_u8 p) "EncodeColumn").run Tryz.prog w = .ok (286, v) w := by
  rw [show 634 = (634 - 2) + 1 + 1 from rfl, mEncodeColumn1_u8, mEncodeColumn2_u8]
  simp only [Sem.run_bind, mEncodeColumn3_u8, load_u8 p w v h, Result.andThen_ok, Sem.run_pure]
theorem mReset_u8 (p : Nat) (w : World) : (method 634 178 (V_u8 p) "Reset").run Tryz.prog w = .ok (287, .pointer (some ⟨p, 0, none⟩)) w := by kernel_rfl
theorem mDecodeColumn_u8 (p : Nat) (w : World) : (method 634 178 (V_u8 p) "DecodeColumn").run Tryz.prog w = .ok (285, .pointer (some ⟨p, 0, none⟩)) w := by kernel_rfl
theorem mIadd_u8 (p : Nat) (w : World) : (method 634 178 (V_u8 p) "given.example/pub-clapboard/impl.add").run Tryz.prog w = .ok (292, V_u8 p) w := by kernel_rfl
theorem mIat_u8 (p : Nat) (w : World) : (method 634 178 (V_u8 p) "given.example/pub-clapboard/impl.at").run Tryz.prog w = .ok (294, V_u8 p) w := by kernel_rfl
theorem taPrep_u8 (p : Nat) (w : World) : (Instr.typeAssert (.iface 178 (V_u8 p)) 83 213 true).run Tryz.prog w = .ok (.tuple #[.nilIface, .bool false]) w := run_typeAssert_lacksB Tryz.underlying213 (by kernel_rfl) (by kernel_rfl) _ _ w
theorem taState_u8 (p : Nat) (w : World) : (Instr.typeAssert (.iface 178 (V_u8 p)) 83 218 true).run Tryz.prog w = .ok (.tuple #[.nilIface, .bool false]) w := run_typeAssert_lacksB Tryz.underlying218 (by kernel_rfl) (by kernel_rfl) _ _ w
theorem taInfer_u8 (p : Nat) (w : World) : (Instr.typeAssert (.iface 178 (V_u8 p)) 96 384 true).run Tryz.prog w = .ok (.tuple #[.nilIface, .bool false]) w := run_typeAssert_lacksB Tryz.underlying384 (by kernel_rfl) (by kernel_rfl) _ _ w
theorem taStateD_u8 (p : Nat) (w : World) : (Instr.typeAssert (.iface 178 (V_u8 p)) 96 389 true).run Tryz.prog w = .ok (.tuple #[.nilIface, .bool false]) w := run_typeAssert_lacksB Tryz.underlying389 (by kernel_rfl) (by kernel_rfl) _ _ w
theorem col_u8 (w : World) : Calls Tryz.prog 31 #[.int .i64 7] w fun e w' => e = .returned (.iface 178 (V_u8 w.heap.size)) ∧ w' = w.alloc (.cells #[.slice none 0 0] 172) := by
  go_enter Tryz.func31, Tryz.ntmps31
  simp only [V_u8]
  go_wp2
  go_ret
  exact ⟨rfl, rfl⟩
/-- UInt8 -/
def K_u8 : Kd := ⟨7, 178, 172, 5, 1, V_u8, "UInt8".toUTF8, 1, cells_u8, bytes_u8, kept_u8, 292, 294, 289, 290, 286, 287, 285⟩
theorem ok_u8 : KdOK K_u8 where
  sz := fun r => rfl
  sz0 := by decide
  wd := fun r => rfl
  wd0 := by decide
  wd1 := by decide
  byt := byt_u8
  nm := by decide
  okk := okk_u8
  col := col_u8
  eAdd := fun _ _ => by kernel_rfl
  eAt := fun _ _ => by kernel_rfl
  eRows := fun _ _ => by kernel_rfl
  eType := fun _ _ => by kernel_rfl
  eEnc := fun _ _ => by kernel_rfl
  eReset := fun _ _ => by kernel_rfl
  eDec := fun _ _ => by kernel_rfl
  mAdd := mIadd_u8
  mAt := mIat_u8
  mRows := mRows_u8
  mType := mType_u8
  mEnc := mEncodeColumn_u8
  mReset := mReset_u8
  mDec := mDecodeColumn_u8
  taPrep := taPrep_u8
  taState := taState_u8
  taInfer := taInfer_u8
  taStateD := taStateD_u8
  add := fun p ar n c rs ao m cp xs w h1 h2 h3 h4 h5 _ => add_u8 p ar n c rs ao m cp xs w h1 h2 h3 h4 h5
  rows := rows_UInt8
  type := type_UInt8
  enc := fun ac n cc rs bp ao m cp bs w hc hrs hb hap hac h0 hn hm => by
    have h := ColUInt8_EncodeColumn ac n cc (rs.flatMap cells_u8) bp ao m cp bs w hc (by intro u hu; obtain ⟨r, _, hr⟩ := List.mem_flatMap.1 hu; simp [cells_u8] at hr; subst hr; rfl) hb (by omega) (by omega)
    rw [show n * K_u8.width = n from Nat.mul_one n]
    exact h
  reset := fun p w h => reset_UInt8 p _ _ w h
  dec := fun p rd bf d ao n rs rest w hrs hR hl h0 h30 hH ho => by
    have h := ColUInt8_DecodeColumn p rd bf d ao n (rs.flatMap bytes_u8) (AllBytes.flat byt_u8 rs) rest w hR (by rw [flatMap_len _ 1 (fun _ => rfl)]; omega) h0 h30 hH ho
    exact h
  at_ := at_u8
/-! ### UInt16 -/
theorem byt_u16 (r : R4) : AllBytes (bytes_u16 r) := leV_bytes _ _
theorem okk_u16 (r : R4) (hr : Ok4 r) : Ok4 (kept_u16 r) := ⟨by show 0 ≤ IntKind.u16.wrap r.a ∧ IntKind.u16.wrap r.a < _; rw [IntKind.wrap_u16]; omega, ⟨zz0, zz0, zz0⟩⟩
theorem mRows1_u16 (k p : Nat) (w : World) : (method (k + 1) 187 (V_u16 p) "Rows").run Tryz.prog w = (method k 179 (.pointer (some ⟨p, 0, none⟩)) "Rows").run Tryz.prog w := by kernel_rfl
theorem mRows2_u16 (k p : Nat) (w : World) : (method (k + 1) 179 (.pointer (some ⟨p, 0, none⟩)) "Rows").run Tryz.prog w = (do let v ← receiverAt 179 (.val (.pointer (some ⟨p, 0, none⟩))) false (some "Rows"); pure (300, v) : Sem (FuncId × Value)).run Tryz.prog w := by kernel_rfl
theorem mRows3_u16 (p : Nat) (w : World) : (receiverAt 179 (.val (.pointer (some ⟨p, 0, none⟩))) false (some "Rows")).run Tryz.prog w = (loadVar 181 ⟨p, 0, none⟩).run Tryz.prog w := by kernel_rfl
theorem mRows_u16 (p : Nat) (w : World) (v : Value) (h : w.cell? ⟨p, 0, none⟩ = some v) : (method 634 187 (V_u16 p) "Rows").run Tryz.prog w = .ok (300, v) w := by
  rw [show 634 = (634 - 2) + 1 + 1 from rfl, mRows1_u16, mRows2_u16]
  simp only [Sem.run_bind, mRows3_u16, load_u16 p w v h, Result.andThen_ok, Sem.run_pure]
theorem mType1_u16 (k p : Nat) (w : World) : (method (k + 1) 187 (V_u16 p) "Type").run Tryz.prog w = (method k 179 (.pointer (some ⟨p, 0, none⟩)) "Type").run Tryz.prog w := by kernel_rfl
theorem mType2_u16 (k p : Nat) (w : World) : (method (k + 1) 179 (.pointer (some ⟨p, 0, none⟩)) "Type").run Tryz.prog w = (do let v ← receiverAt 179 (.val (.pointer (some ⟨p, 0, none⟩))) false (some "Type"); pure (301, v) : Sem (FuncId × Value)).run Tryz.prog w := by kernel_rfl
theorem mType3_u16 (p : Nat) (w : World) : (receiverAt 179 (.val (.pointer (some ⟨p, 0, none⟩))) false (some "Type")).run Tryz.prog w = (loadVar 181 ⟨p, 0, none⟩).run Tryz.prog w := by kernel_rfl
theorem mType_u16 (p : Nat) (w : World) (v : Value) (h : w.cell? ⟨p, 0, none⟩ = some v) : (method 634 187 (V_u16 p) "Type").run Tryz.prog w = .ok (301, v) w := by
  rw [show 634 = (634 - 2) + 1 + 1 from rfl, mType1_u16, mType2_u16]
  simp only [Sem.run_bind, mType3_u16, load_u16 p w v h, Result.andThen_ok, Sem.run_pure]
theorem mEncodeColumn1_u16 (k p : Nat) (w : World) : (method (k + 1) 187 (V_u16 p) "EncodeColumn").run Tryz.prog w = (method k 179 (.pointer (some ⟨p, 0, none⟩)) "EncodeColumn").run Tryz.prog w := by kernel_rfl
theorem mEncodeColumn2_u16 (k p : Nat) (w : World) : (method (k + 1) 179 (.pointer (some ⟨p, 0, none⟩)) "EncodeColumn").run Tryz.prog w = (do let v ← receiverAt 179 (.val (.pointer (some ⟨p, 0, none⟩))) false (some "EncodeColumn"); pure (297, v) : Sem (FuncId × Value)).run Tryz.prog w := by kernel_rfl
theorem mEncodeColumn3_u16 (p : Nat) (w : World) : (receiverAt 179 (.val (.pointer (some ⟨p, 0, none⟩))) false (some "EncodeColumn")).run Tryz.prog w = (loadVar 181 ⟨p, 0, none⟩).run Tryz.prog w := by kernel_rfl
theorem mEncodeColumn_u16 (p : Nat) (w : World) (v : Value) (h : w.cell? ⟨p, 0, none⟩ = some v) : (method 634 187 (V_u16 p) "EncodeColumn").run Tryz.prog w = .ok (297, v) w := by
  rw [show 634 = (634 - 2) + 1 + 1 from rfl, mEncodeColumn1_u16, mEncodeColumn2_u16]
  simp only [Sem.run_bind, mEncodeColumn3_u16, load_u16 p w v h, Result.andThen_ok, Sem.run_pure]
theorem mReset_u16 (p : Nat) (w : World) : (method 634 187 (V_u16 p) "Reset").run Tryz.prog w = .ok (298, .pointer (some ⟨p, 0, none⟩)) w := by kernel_rfl
theorem mDecodeColumn_u16 (p : Nat) (w : World) : (method 634 187 (V_u16 p) "DecodeColumn").run Tryz.prog w = .ok (296, .pointer (some ⟨p, 0, none⟩)) w := by kernel_rfl
theorem mIadd_u16 (p : Nat) (w : World) : (method 634 187 (V_u16 p) "given.example/pub-clapboard/impl.add").run Tryz.prog w = .ok (303, V_u16 p) w := by kernel_rfl
theorem mIat_u16 (p : Nat) (w : World) : (method 634 187 (V_u16 p) "given.example/pub-clapboard/impl.at").run Tryz.prog w = .ok (305, V_u16 p) w := by kernel_rfl
theorem taPrep_u16 (p : Nat) (w : World) : (Instr.typeAssert (.iface 187 (V_u16 p)) 83 213 true).run Tryz.prog w = .ok (.tuple #[.nilIface, .bool false]) w := run_typeAssert_lacksB Tryz.underlying213 (by kernel_rfl) (by kernel_rfl) _ _ w
theorem taState_u16 (p : Nat) (w : World) : (Instr.typeAssert (.iface 187 (V_u16 p)) 83 218 true).run Tryz.prog w = .ok (.tuple #[.nilIface, .bool false]) w := run_typeAssert_lacksB Tryz.underlying218 (by kernel_rfl) (by kernel_rfl) _ _ w
theorem taInfer_u16 (p : Nat) (w : World) : (Instr.typeAssert (.iface 187 (V_u16 p)) 96 384 true).run Tryz.prog w = .ok (.tuple #[.nilIface, .bool false]) w := run_typeAssert_lacksB Tryz.underlying384 (by kernel_rfl) (by kernel_rfl) _ _ w
theorem taStateD_u16 (p : Nat) (w : World) : (Instr.typeAssert (.iface 187 (V_u16 p)) 96 389 true).run Tryz.prog w = .ok (.tuple #[.nilIface, .bool false]) w := run_typeAssert_lacksB Tryz.underlying389 (by kernel_rfl) (by kernel_rfl) _ _ w
theorem col_u16 (w : World) : Calls Tryz.prog 31 #[.int .i64 8] w fun e w' => e = .returned (.iface 187 (V_u16 w.heap.size)) ∧ w' = w.alloc (.cells #[.slice none 0 0] 181) := by
  go_enter Tryz.func31, Tryz.ntmps31
  simp only [V_u16]
  go_wp2
  go_ret
  exact ⟨rfl, rfl⟩
/-- UInt16 -/
def K_u16 : Kd := ⟨8, 187, 181, 22, 1, V_u16, "UInt16".toUTF8, 2, cells_u16, bytes_u16, kept_u16, 303, 305, 300, 301, 297, 298, 296⟩
theorem ok_u16 : KdOK K_u16 where
  sz := fun r => rfl
  sz0 := by decide
  wd := fun r => rfl
  wd0 := by decide
  wd1 := by decide
  byt := byt_u16
  nm := by decide
  okk := okk_u16
  col := col_u16
  eAdd := fun _ _ => by kernel_rfl
  eAt := fun _ _ => by kernel_rfl
  eRows := fun _ _ => by kernel_rfl
  eType := fun _ _ => by kernel_rfl
  eEnc := fun _ _ => by kernel_rfl
  eReset := fun _ _ => by kernel_rfl
  eDec := fun _ _ => by kernel_rfl
  mAdd := mIadd_u16
  mAt := mIat_u16
  mRows := mRows_u16
  mType := mType_u16
  mEnc := mEncodeColumn_u16
  mReset := mReset_u16
  mDec := mDecodeColumn_u16
  taPrep := taPrep_u16
  taState := taState_u16
  taInfer := taInfer_u16
  taStateD := taStateD_u16
  add := fun p ar n c rs ao m cp xs w h1 h2 h3 h4 h5 _ => add_u16 p ar n c rs ao m cp xs w h1 h2 h3 h4 h5
  rows := rows_UInt16
  type := type_UInt16
  enc := fun ac n cc rs bp ao m cp bs w hc hrs hb hap hac h0 hn hm => by
    have h := ColUInt16_EncodeColumn ac n cc (rs.map (fun r => IntKind.u16.wrap r.a)) bp ao m cp bs w (by rw [← fm1]; exact hc) hb hap hac (by omega) (by omega)
    rw [fm2] at h
    exact h
  reset := fun p w h => reset_UInt16 p _ _ w h
  dec := fun p rd bf d ao n rs rest w hrs hR hl h0 h30 hH ho => by
    have h := ColUInt16_DecodeColumn p rd bf d ao n (rs.map (fun r => IntKind.u16.wrap r.a)) (by intro x hx; obtain ⟨r, hr, rfl⟩ := List.mem_map.1 hx; (try dsimp only); rw [IntKind.wrap_u16]; omega) rest w (by rw [fm2]; exact hR) (by rw [List.length_map]; exact hl) h0 h30 hH ho
    rw [← fm1] at h
    exact h
  at_ := at_u16
/-! ### UInt32 -/
theorem byt_u32 (r : R4) : AllBytes (bytes_u32 r) := leV_bytes _ _
theorem okk_u32 (r : R4) (hr : Ok4 r) : Ok4 (kept_u32 r) := ⟨by show 0 ≤ IntKind.u32.wrap r.a ∧ IntKind.u32.wrap r.a < _; rw [IntKind.wrap_u32]; omega, ⟨zz0, zz0, zz0⟩⟩
theorem mRows1_u32 (k p : Nat) (w : World) : (method (k + 1) 196 (V_u32 p) "Rows").run Tryz.prog w = (method k 188 (.pointer (some ⟨p, 0, none⟩)) "Rows").run Tryz.prog w := by kernel_rfl
theorem mRows2_u32 (k p : Nat) (w : World) : (method (k + 1) 188 (.pointer (some ⟨p, 0, none⟩)) "Rows").run Tryz.prog w = (do let v ← receiverAt 188 (.val (.pointer (some ⟨p, 0, none⟩))) false (some "Rows"); pure (311, v) : Sem (FuncId × Value)).run Tryz.prog w := by kernel_rfl
theorem mRows3_u32 (p : Nat) (w : World) : (receiverAt 188 (.val (.pointer (some ⟨p, 0, none⟩))) false (some "Rows")).run Tryz.prog w = (loadVar 190 ⟨p, 0, none⟩).run Tryz.prog w := by kernel_rfl
theorem mRows_u32 (p : Nat) (w : World) (v : Value) (h : w.cell? ⟨p, 0, none⟩ = some v) : (method 634 196 (V_u32 p) "Rows").run Tryz.prog w = .ok (311, v) w := by
  rw [show 634 = (634 - 2) + 1 + 1 from rfl, mRows1_u32, mRows2_u32]
  simp only [Sem.run_bind, mRows3_u32, load_u32 p w v h, Result.andThen_ok, Sem.run_pure]
theorem mType1_u32 (k p : Nat) (w : World) : (method (k + 1) 196 (V_u32 p) "Type").run Tryz.prog w = (method k 188 (.pointer (some ⟨p, 0, none⟩)) "Type").run Tryz.prog w := by kernel_rfl
theorem mType2_u32 (k p : Nat) (w : World) : (method (k + 1) 188 (.pointer (some ⟨p, 0, none⟩)) "Type").run Tryz.prog w = (do let v ← receiverAt 188 (.val (.pointer (some ⟨p, 0, none⟩))) false (some "Type"); pure (312, v) : Sem (FuncId × Value)).run Tryz.prog w := by kernel_rfl
theorem mType3_u32 (p : Nat) (w : World) : (receiverAt 188 (.val (.pointer (some ⟨p, 0, none⟩))) false (some "Type")).run Tryz.prog w = (loadVar 190 ⟨p, 0, none⟩).run Tryz.prog w := by kernel_rfl
theorem mType_u32 (p : Nat) (w : World) (v : Value) (h : w.cell? ⟨p, 0, none⟩ = some v) : (method 634 196 (V_u32 p) "Type").run Tryz.prog w = .ok (312, v) w := by
  rw [show 634 = (634 - 2) + 1 + 1 from rfl, mType1_u32, mType2_u32]
  simp only [Sem.run_bind, mType3_u32, load_u32 p w v h, Result.andThen_ok, Sem.run_pure]
theorem mEncodeColumn1_u32 (k p : Nat) (w : World) : (method (k + 1) 196 (V_u32 p) "EncodeColumn").run Tryz.prog w = (method k 188 (.pointer (some ⟨p, 0, none⟩)) "EncodeColumn").run Tryz.prog w := by kernel_rfl
theorem mEncodeColumn2_u32 (k p : Nat) (w : World) : (method (k + 1) 188 (.pointer (some ⟨p, 0, none⟩)) "EncodeColumn").run Tryz.prog w = (do let v ← receiverAt 188 (.val (.pointer (some ⟨p, 0, none⟩))) false (some "EncodeColumn"); pure (308, v) : Sem (FuncId × Value)).run Tryz.prog w := by kernel_rfl
theorem mEncodeColumn3_u32 (p : Nat) (w : World) : (receiverAt 188 (.val (.pointer (some ⟨p, 0, none⟩))) false (some "EncodeColumn")).run Tryz.prog w = (loadVar 190 ⟨p, 0, none⟩).run Tryz.prog w := by kernel_rfl
theorem mEncodeColumn_u32 (p : Nat) (w : World) (v : Value) (h : w.cell? ⟨p, 0, none⟩ = some v) : (method 634 196 (V_u32 p) "EncodeColumn").run Tryz.prog w = .ok (308, v) w := by
  rw [show 634 = (634 - 2) + 1 + 1 from rfl, mEncodeColumn1_u32, mEncodeColumn2_u32]
  simp only [Sem.run_bind, mEncodeColumn3_u32, load_u32 p w v h, Result.andThen_ok, Sem.run_pure]
theorem mReset_u32 (p : Nat) (w : World) : (method 634 196 (V_u32 p) "Reset").run Tryz.prog w = .ok (309, .pointer (some ⟨p, 0, none⟩)) w := by kernel_rfl
theorem mDecodeColumn_u32 (p : Nat) (w : World) : (method 634 196 (V_u32 p) "DecodeColumn").run Tryz.prog w = .ok (307, .pointer (some ⟨p, 0, none⟩)) w := by kernel_rfl
theorem mIadd_u32 (p : Nat) (w : World) : (method 634 196 (V_u32 p) "given.example/pub-clapboard/impl.add").run Tryz.prog w = .ok (314, V_u32 p) w := by kernel_rfl
theorem mIat_u32 (p : Nat) (w : World) : (method 634 196 (V_u32 p) "given.example/pub-clapboard/impl.at").run Tryz.prog w = .ok (316, V_u32 p) w := by kernel_rfl
theorem taPrep_u32 (p : Nat) (w : World) : (Instr.typeAssert (.iface 196 (V_u32 p)) 83 213 true).run Tryz.prog w = .ok (.tuple #[.nilIface, .bool false]) w := run_typeAssert_lacksB Tryz.underlying213 (by kernel_rfl) (by kernel_rfl) _ _ w
theorem taState_u32 (p : Nat) (w : World) : (Instr.typeAssert (.iface 196 (V_u32 p)) 83 218 true).run Tryz.prog w = .ok (.tuple #[.nilIface, .bool false]) w := run_typeAssert_lacksB Tryz.underlying218 (by kernel_rfl) (by kernel_rfl) _ _ w
theorem taInfer_u32 (p : Nat) (w : World) : (Instr.typeAssert (.iface 196 (V_u32 p)) 96 384 true).run Tryz.prog w = .ok (.tuple #[.nilIface, .bool false]) w := run_typeAssert_lacksB Tryz.underlying384 (by kernel_rfl) (by kernel_rfl) _ _ w
theorem taStateD_u32 (p : Nat) (w : World) : (Instr.typeAssert (.iface 196 (V_u32 p)) 96 389 true).run Tryz.prog w = .ok (.tuple #[.nilIface, .bool false]) w := run_typeAssert_lacksB Tryz.underlying389 (by kernel_rfl) (by kernel_rfl) _ _ w
theorem col_u32 (w : World) : Calls Tryz.prog 31 #[.int .i64 9] w fun e w' => e = .returned (.iface 196 (V_u32 w.heap.size)) ∧ w' = w.alloc (.cells #[.slice none 0 0] 190) := by
  go_enter Tryz.func31, Tryz.ntmps31
  simp only [V_u32]
  go_wp2
  go_ret
  exact ⟨rfl, rfl⟩
/-- UInt32 -/
def K_u32 : Kd := ⟨9, 196, 190, 76, 1, V_u32, "UInt32".toUTF8, 4, cells_u32, bytes_u32, kept_u32, 314, 316, 311, 312, 308, 309, 307⟩
theorem ok_u32 : KdOK K_u32 where
  sz := fun r => rfl
  sz0 := by decide
  wd := fun r => rfl
  wd0 := by decide
  wd1 := by decide
  byt := byt_u32
  nm := by decide
  okk := okk_u32
  col := col_u32
  eAdd := fun _ _ => by kernel_rfl
  eAt := fun _ _ => by kernel_rfl
  eRows := fun _ _ => by kernel_rfl
  eType := fun _ _ => by kernel_rfl
  eEnc := fun _ _ => by kernel_rfl
  eReset := fun _ _ => by kernel_rfl
  eDec := fun _ _ => by kernel_rfl
  mAdd := mIadd_u32
  mAt := mIat_u32
  mRows := mRows_u32
  mType := mType_u32
  mEnc := mEncodeColumn_u32
  mReset := mReset_u32
  mDec := mDecodeColumn_u32
  taPrep := taPrep_u32
  taState := taState_u32
  taInfer := taInfer_u32
  taStateD := taStateD_u32
  add := fun p ar n c rs ao m cp xs w h1 h2 h3 h4 h5 _ => add_u32 p ar n c rs ao m cp xs w h1 h2 h3 h4 h5
  rows := rows_UInt32
  type := type_UInt32
  enc := fun ac n cc rs bp ao m cp bs w hc hrs hb hap hac h0 hn hm => by
    have h := ColUInt32_EncodeColumn ac n cc (rs.map (fun r => IntKind.u32.wrap r.a)) bp ao m cp bs w (by rw [← fm1]; exact hc) hb hap hac (by omega) (by omega)
    rw [fm2] at h
    exact h
  reset := fun p w h => reset_UInt32 p _ _ w h
  dec := fun p rd bf d ao n rs rest w hrs hR hl h0 h30 hH ho => by
    have h := ColUInt32_DecodeColumn p rd bf d ao n (rs.map (fun r => IntKind.u32.wrap r.a)) (by intro x hx; obtain ⟨r, hr, rfl⟩ := List.mem_map.1 hx; (try dsimp only); rw [IntKind.wrap_u32]; omega) rest w (by rw [fm2]; exact hR) (by rw [List.length_map]; exact hl) h0 h30 hH ho
    rw [← fm1] at h
    exact h
  at_ := at_u32
/-! ### UInt64 -/
theorem byt_u64 (r : R4) : AllBytes (bytes_u64 r) := leV_bytes _ _
theorem okk_u64 (r : R4) (hr : Ok4 r) : Ok4 (kept_u64 r) := ⟨hr.1, ⟨zz0, zz0, zz0⟩⟩
theorem mRows1_u64 (k p : Nat) (w : World) : (method (k + 1) 205 (V_u64 p) "Rows").run Tryz.prog w = (method k 197 (.pointer (some ⟨p, 0, none⟩)) "Rows").run Tryz.prog w := by kernel_rfl
theorem mRows2_u64 (k p : Nat) (w : World) : (method (k + 1) 197 (.pointer (some ⟨p, 0, none⟩)) "Rows").run Tryz.prog w = (do let v ← receiverAt 197 (.val (.pointer (some ⟨p, 0, none⟩))) false (some "Rows"); pure (322, v) : Sem (FuncId × Value)).run Tryz.prog w := by kernel_rfl
theorem mRows3_u64 (p : Nat) (w : World) : (receiverAt 197 (.val (.pointer (some ⟨p, 0, none⟩))) false (some "Rows")).run Tryz.prog w = (loadVar 199 ⟨p, 0, none⟩).run Tryz.prog w := by kernel_rfl
theorem mRows_u64 (p : Nat) (w : World) (v : Value) (h : w.cell? ⟨p, 0, none⟩ = some v) : (method 634 205 (V_u64 p) "Rows").run Tryz.prog w = .ok (322, v) w := by
  rw [show 634 = (634 - 2) + 1 + 1 from rfl, mRows1_u64, mRows2_u64]
  simp only [Sem.run_bind, mRows3_u64, load_u64 p w v h, Result.andThen_ok, Sem.run_pure]
theorem mType1_u64 (k p : Nat) (w : World) : (method (k + 1) 205 (V_u64 p) "Type").run Tryz.prog w = (method k 197 (.pointer (some ⟨p, 0, none⟩)) "Type").run Tryz.prog w := by kernel_rfl
theorem mType2_u64 (k p : Nat) (w : World) : (method (k + 1) 197 (.pointer (some ⟨p, 0, none⟩)) "Type").run Tryz.prog w = (do let v ← receiverAt 197 (.val (.pointer (some ⟨p, 0, none⟩))) false (some "Type"); pure (323, v) : Sem (FuncId × Value)).run Tryz.prog w := by kernel_rfl
theorem mType3_u64 (p : Nat) (w : World) : (receiverAt 197 (.val (.pointer (some ⟨p, 0, none⟩))) false (some "Type")).run Tryz.prog w = (loadVar 199 ⟨p, 0, none⟩).run Tryz.prog w := by kernel_rfl
theorem mType_u64 (p : Nat) (w : World) (v : Value) (h : w.cell? ⟨p, 0, none⟩ = some v) : (method 634 205 (V_u64 p) "Type").run Tryz.prog w = .ok (323, v) w := by
  rw [show 634 = (634 - 2) + 1 + 1 from rfl, mType1_u64, mType2_u64]
  simp only [Sem.run_bind, mType3_u64, load_u64 p w v h, Result.andThen_ok, Sem.run_pure]
theorem mEncodeColumn1_u64 (k p : Nat) (w : World) : (method (k + 1) 205 (V_u64 p) "EncodeColumn").run Tryz.prog w = (method k 197 (.pointer (some ⟨p, 0, none⟩)) "EncodeColumn").run Tryz.prog w := by kernel_rfl
theorem mEncodeColumn2_u64 (k p : Nat) (w : World) : (method (k + 1) 197 (.pointer (some ⟨p, 0, none⟩)) "EncodeColumn").run Tryz.prog w = (do let v ← receiverAt 197 (.val (.pointer (some ⟨p, 0, none⟩))) false (some "EncodeColumn"); pure (319, v) : Sem (FuncId × Value)).run Tryz.prog w := by kernel_rfl
theorem mEncodeColumn3_u64 (p : Nat) (w : World) : (receiverAt 197 (.val (.pointer (some ⟨p, 0, none⟩))) false (some "EncodeColumn")).run Tryz.prog w = (loadVar 199 ⟨p, 0, none⟩).run Tryz.prog w := by kernel_rfl
theorem mEncodeColumn_u64 (p : Nat) (w : World) (v : Value) (h : w.cell? ⟨p, 0, none⟩ = some v) : (method 634 205 (V_u64 p) "EncodeColumn").run Tryz.prog w = .ok (319, v) w := by
  rw [show 634 = (634 - 2) + 1 + 1 from rfl, mEncodeColumn1_u64, mEncodeColumn2_u64]
  simp only [Sem.run_bind, mEncodeColumn3_u64, load_u64 p w v h, Result.andThen_ok, Sem.run_pure]
theorem mReset_u64 (p : Nat) (w : World) : (method 634 205 (V_u64 p) "Reset").run Tryz.prog w = .ok (320, .pointer (some ⟨p, 0, none⟩)) w := by kernel_rfl
theorem mDecodeColumn_u64 (p : Nat) (w : World) : (method 634 205 (V_u64 p) "DecodeColumn").run Tryz.prog w = .ok (318, .pointer (some ⟨p, 0, none⟩)) w := by kernel_rfl
theorem mIadd_u64 (p : Nat) (w : World) : (method 634 205 (V_u64 p) "given.example/pub-clapboard/impl.add").run Tryz.prog w = .ok (325, V_u64 p) w := by kernel_rfl
theorem mIat_u64 (p : Nat) (w : World) : (method 634 205 (V_u64 p) "given.example/pub-clapboard/impl.at").run Tryz.prog w = .ok (327, V_u64 p) w := by kernel_rfl
theorem taPrep_u64 (p : Nat) (w : World) : (Instr.typeAssert (.iface 205 (V_u64 p)) 83 213 true).run Tryz.prog w = .ok (.tuple #[.nilIface, .bool false]) w := run_typeAssert_lacksB Tryz.underlying213 (by kernel_rfl) (by kernel_rfl) _ _ w
theorem taState_u64 (p : Nat) (w : World) : (Instr.typeAssert (.iface 205 (V_u64 p)) 83 218 true).run Tryz.prog w = .ok (.tuple #[.nilIface, .bool false]) w := run_typeAssert_lacksB Tryz.underlying218 (by kernel_rfl) (by kernel_rfl) _ _ w
theorem taInfer_u64 (p : Nat) (w : World) : (Instr.typeAssert (.iface 205 (V_u64 p)) 96 384 true).run Tryz.prog w = .ok (.tuple #[.nilIface, .bool false]) w := run_typeAssert_lacksB Tryz.underlying384 (by kernel_rfl) (by kernel_rfl) _ _ w
theorem taStateD_u64 (p : Nat) (w : World) : (Instr.typeAssert (.iface 205 (V_u64 p)) 96 389 true).run Tryz.prog w = .ok (.tuple #[.nilIface, .bool false]) w := run_typeAssert_lacksB Tryz.underlying389 (by kernel_rfl) (by kernel_rfl) _ _ w
theorem col_u64 (w : World) : Calls Tryz.prog 31 #[.int .i64 10] w fun e w' => e = .returned (.iface 205 (V_u64 w.heap.size)) ∧ w' = w.alloc (.cells #[.slice none 0 0] 199) := by
  go_enter Tryz.func31, Tryz.ntmps31
  simp only [V_u64]
  go_wp2
  go_ret
  exact ⟨rfl, rfl⟩
/-- UInt64 -/
def K_u64 : Kd := ⟨10, 205, 199, 69, 1, V_u64, "UInt64".toUTF8, 8, cells_u64, bytes_u64, kept_u64, 325, 327, 322, 323, 319, 320, 318⟩
theorem ok_u64 : KdOK K_u64 where
  sz := fun r => rfl
  sz0 := by decide
  wd := fun r => rfl
  wd0 := by decide
  wd1 := by decide
  byt := byt_u64
  nm := by decide
  okk := okk_u64
  col := col_u64
  eAdd := fun _ _ => by kernel_rfl
  eAt := fun _ _ => by kernel_rfl
  eRows := fun _ _ => by kernel_rfl
  eType := fun _ _ => by kernel_rfl
  eEnc := fun _ _ => by kernel_rfl
  eReset := fun _ _ => by kernel_rfl
  eDec := fun _ _ => by kernel_rfl
  mAdd := mIadd_u64
  mAt := mIat_u64
  mRows := mRows_u64
  mType := mType_u64
  mEnc := mEncodeColumn_u64
  mReset := mReset_u64
  mDec := mDecodeColumn_u64
  taPrep := taPrep_u64
  taState := taState_u64
  taInfer := taInfer_u64
  taStateD := taStateD_u64
  add := fun p ar n c rs ao m cp xs w h1 h2 h3 h4 h5 _ => add_u64 p ar n c rs ao m cp xs w h1 h2 h3 h4 h5
  rows := rows_UInt64
  type := type_UInt64
  enc := fun ac n cc rs bp ao m cp bs w hc hrs hb hap hac h0 hn hm => by
    have h := ColUInt64_EncodeColumn ac n cc (rs.map (fun r => r.a)) bp ao m cp bs w (by rw [← fm1]; exact hc) hb hap hac (by omega) (by omega)
    rw [fm2] at h
    exact h
  reset := fun p w h => reset_UInt64 p _ _ w h
  dec := fun p rd bf d ao n rs rest w hrs hR hl h0 h30 hH ho => by
    have h := ColUInt64_DecodeColumn p rd bf d ao n (rs.map (fun r => r.a)) (by intro x hx; obtain ⟨r, hr, rfl⟩ := List.mem_map.1 hx; (try dsimp only); exact (hrs r hr).1) rest w (by rw [fm2]; exact hR) (by rw [List.length_map]; exact hl) h0 h30 hH ho
    rw [← fm1] at h
    exact h
  at_ := at_u64
/-! ### UInt128 -/
theorem byt_u128 (r : R4) : AllBytes (bytes_u128 r) := wbyte_bytes _
theorem okk_u128 (r : R4) (hr : Ok4 r) : Ok4 (kept_u128 r) := ⟨hr.1, hr.2.1, zz0, zz0⟩
theorem mRows1_u128 (k p : Nat) (w : World) : (method (k + 1) 249 (V_u128 p) "Rows").run Tryz.prog w = (method k 242 (.pointer (some ⟨p, 0, none⟩)) "Rows").run Tryz.prog w := by kernel_rfl
theorem mRows2_u128 (k p : Nat) (w : World) : (method (k + 1) 242 (.pointer (some ⟨p, 0, none⟩)) "Rows").run Tryz.prog w = (do let v ← receiverAt 242 (.val (.pointer (some ⟨p, 0, none⟩))) false (some "Rows"); pure (334, v) : Sem (FuncId × Value)).run Tryz.prog w := by kernel_rfl
theorem mRows3_u128 (p : Nat) (w : World) : (receiverAt 242 (.val (.pointer (some ⟨p, 0, none⟩))) false (some "Rows")).run Tryz.prog w = (loadVar 244 ⟨p, 0, none⟩).run Tryz.prog w := by kernel_rfl
theorem mRows_u128 (p : Nat) (w : World) (v : Value) (h : w.cell? ⟨p, 0, none⟩ = some v) : (method 634 249 (V_u128 p) "Rows").run Tryz.prog w = .ok (334, v) w := by
  rw [show 634 = (634 - 2) + 1 + 1 from rfl, mRows1_u128, mRows2_u128]
  simp only [Sem.run_bind, mRows3_u128, load_u128 p w v h, Result.andThen_ok, Sem.run_pure]
theorem mType1_u128 (k p : Nat) (w : World) : (method (k + 1) 249 (V_u128 p) "Type").run Tryz.prog w = (method k 242 (.pointer (some ⟨p, 0, none⟩)) "Type").run Tryz.prog w := by kernel_rfl
theorem mType2_u128 (k p : Nat) (w : World) : (method (k + 1) 242 (.pointer (some ⟨p, 0, none⟩)) "Type").run Tryz.prog w = (do let v ← receiverAt 242 (.val (.pointer (some ⟨p, 0, none⟩))) false (some "Type"); pure (335, v) : Sem (FuncId × Value)).run Tryz.prog w := by kernel_rfl
theorem mType3_u128 (p : Nat) (w : World) : (receiverAt 242 (.val (.pointer (some ⟨p, 0, none⟩))) false (some "Type")).run Tryz.prog w = (loadVar 244 ⟨p, 0, none⟩).run Tryz.prog w := by kernel_rfl
theorem mType_u128 (p : Nat) (w : World) (v : Value) (h : w.cell? ⟨p, 0, none⟩ = some v) : (method 634 249 (V_u128 p) "Type").run Tryz.prog w = .ok (335, v) w := by
  rw [show 634 = (634 - 2) + 1 + 1 from rfl, mType1_u128, mType2_u128]
  simp only [Sem.run_bind, mType3_u128, load_u128 p w v h, Result.andThen_ok, Sem.run_pure]
theorem mEncodeColumn1_u128 (k p : Nat) (w : World) : (method (k + 1) 249 (V_u128 p) "EncodeColumn").run Tryz.prog w = (method k 242 (.pointer (some ⟨p, 0, none⟩)) "EncodeColumn").run Tryz.prog w := by kernel_rfl
theorem mEncodeColumn2_u128 (k p : Nat) (w : World) : (method (k + 1) 242 (.pointer (some ⟨p, 0, none⟩)) "EncodeColumn").run Tryz.prog w = (do let v ← receiverAt 242 (.val (.pointer (some ⟨p, 0, none⟩))) false (some "EncodeColumn"); pure (331, v) : Sem (FuncId × Value)).run Tryz.prog w := by kernel_rfl
theorem mEncodeColumn3_u128 (p : Nat) (w : World) : (receiverAt 242 (.val (.pointer (some ⟨p, 0, none⟩))) false (some "EncodeColumn")).run Tryz.prog w = (loadVar 244 ⟨p, 0, none⟩).run Tryz.prog w := by kernel_rfl
theorem mEncodeColumn_u128 (p : Nat) (w : World) (v : Value) (h : w.cell? ⟨p, 0, none⟩ = some v) : (method 634 249 (V_u128 p) "EncodeColumn").run Tryz.prog w = .ok (331, v) w := by
  rw [show 634 = (634 - 2) + 1 + 1 from rfl, mEncodeColumn1_u128, mEncodeColumn2_u128]
  simp only [Sem.run_bind, mEncodeColumn3_u128, load_u128 p w v h, Result.andThen_ok, Sem.run_pure]
theorem mReset_u128 (p : Nat) (w : World) : (method 634 249 (V_u128 p) "Reset").run Tryz.prog w = .ok (332, .pointer (some ⟨p, 0, none⟩)) w := by kernel_rfl
theorem mDecodeColumn_u128 (p : Nat) (w : World) : (method 634 249 (V_u128 p) "DecodeColumn").run Tryz.prog w = .ok (330, .pointer (some ⟨p, 0, none⟩)) w := by kernel_rfl
theorem mIadd_u128 (p : Nat) (w : World) : (method 634 249 (V_u128 p) "given.example/pub-clapboard/impl.add").run Tryz.prog w = .ok (337, V_u128 p) w := by kernel_rfl
theorem mIat_u128 (p : Nat) (w : World) : (method 634 249 (V_u128 p) "given.example/pub-clapboard/impl.at").run Tryz.prog w = .ok (339, V_u128 p) w := by kernel_rfl
theorem taPrep_u128 (p : Nat) (w : World) : (Instr.typeAssert (.iface 249 (V_u128 p)) 83 213 true).run Tryz.prog w = .ok (.tuple #[.nilIface, .bool false]) w := run_typeAssert_lacksB Tryz.underlying213 (by kernel_rfl) (by kernel_rfl) _ _ w
theorem taState_u128 (p : Nat) (w : World) : (Instr.typeAssert (.iface 249 (V_u128 p)) 83 218 true).run Tryz.prog w = .ok (.tuple #[.nilIface, .bool false]) w := run_typeAssert_lacksB Tryz.underlying218 (by kernel_rfl) (by kernel_rfl) _ _ w
theorem taInfer_u128 (p : Nat) (w : World) : (Instr.typeAssert (.iface 249 (V_u128 p)) 96 384 true).run Tryz.prog w = .ok (.tuple #[.nilIface, .bool false]) w := run_typeAssert_lacksB Tryz.underlying384 (by kernel_rfl) (by kernel_rfl) _ _ w
theorem taStateD_u128 (p : Nat) (w : World) : (Instr.typeAssert (.iface 249 (V_u128 p)) 96 389 true).run Tryz.prog w = .ok (.tuple #[.nilIface, .bool false]) w := run_typeAssert_lacksB Tryz.underlying389 (by kernel_rfl) (by kernel_rfl) _ _ w
theorem colO_u128 (w : World) : Calls Tryz.prog 68 #[.int .i64 11] w fun e w' => e = .returned (.iface 249 (V_u128 w.heap.size)) ∧ w' = w.alloc (.cells #[.slice none 0 0] 244) := by
  go_enter Tryz.func68, Tryz.ntmps68
  simp only [V_u128]
  go_wp2
  go_ret
  exact ⟨rfl, rfl⟩
theorem col_u128 (w : World) : Calls Tryz.prog 31 #[.int .i64 11] w fun e w' => e = .returned (.iface 249 (V_u128 w.heap.size)) ∧ w' = w.alloc (.cells #[.slice none 0 0] 244) := by
  go_enter Tryz.func31, Tryz.ntmps31
  go_wp2_with (go_at_call 68; (with_reducible refine (colO_u128 _).mono ?_); rintro e w1 ⟨rfl, rfl⟩)
  go_ret
  exact ⟨rfl, rfl⟩
/-- UInt128 -/
def K_u128 : Kd := ⟨11, 249, 244, 151, 2, V_u128, "UInt128".toUTF8, 16, cells_u128, bytes_u128, kept_u128, 337, 339, 334, 335, 331, 332, 330⟩
theorem ok_u128 : KdOK K_u128 where
  sz := fun r => rfl
  sz0 := by decide
  wd := fun r => rfl
  wd0 := by decide
  wd1 := by decide
  byt := byt_u128
  nm := by decide
  okk := okk_u128
  col := col_u128
  eAdd := fun _ _ => by kernel_rfl
  eAt := fun _ _ => by kernel_rfl
  eRows := fun _ _ => by kernel_rfl
  eType := fun _ _ => by kernel_rfl
  eEnc := fun _ _ => by kernel_rfl
  eReset := fun _ _ => by kernel_rfl
  eDec := fun _ _ => by kernel_rfl
  mAdd := mIadd_u128
  mAt := mIat_u128
  mRows := mRows_u128
  mType := mType_u128
  mEnc := mEncodeColumn_u128
  mReset := mReset_u128
  mDec := mDecodeColumn_u128
  taPrep := taPrep_u128
  taState := taState_u128
  taInfer := taInfer_u128
  taStateD := taStateD_u128
  add := fun p ar n c rs ao m cp xs w h1 h2 h3 h4 h5 _ => add_u128 p ar n c rs ao m cp xs w h1 h2 h3 h4 h5
  rows := rows_UInt128
  type := type_UInt128
  enc := fun ac n cc rs bp ao m cp bs w hc hrs hb hap hac h0 hn hm => by
    have h := ColUInt128_EncodeColumn ac n cc (rs.map (fun r => [r.a, r.b])) (words2 hrs) bp ao m cp bs w (by rw [fm2]; exact hc) hb hap (by omega) (by omega)
    rw [fm2] at h
    exact h
  reset := fun p w h => reset_UInt128 p _ _ w h
  dec := fun p rd bf d ao n rs rest w hrs hR hl h0 h30 hH ho => by
    have h := ColUInt128_DecodeColumn p rd bf d ao n (rs.map (fun r => [r.a, r.b])) (words2 hrs) rest w (by rw [fm2]; exact hR) (by rw [List.length_map]; exact hl) h0 h30 hH ho
    rw [fm2] at h
    exact h
  at_ := at_u128
/-! ### UInt256 -/
theorem byt_u256 (r : R4) : AllBytes (bytes_u256 r) := wbyte_bytes _
theorem okk_u256 (r : R4) (hr : Ok4 r) : Ok4 (kept_u256 r) := hr
theorem mRows1_u256 (k p : Nat) (w : World) : (method (k + 1) 259 (V_u256 p) "Rows").run Tryz.prog w = (method k 250 (.pointer (some ⟨p, 0, none⟩)) "Rows").run Tryz.prog w := by kernel_rfl
theorem mRows2_u256 (k p : Nat) (w : World) : (method (k + 1) 250 (.pointer (some ⟨p, 0, none⟩)) "Rows").run Tryz.prog w = (do let v ← receiverAt 250 (.val (.pointer (some ⟨p, 0, none⟩))) false (some "Rows"); pure (345, v) : Sem (FuncId × Value)).run Tryz.prog w := by kernel_rfl
theorem mRows3_u256 (p : Nat) (w : World) : (receiverAt 250 (.val (.pointer (some ⟨p, 0, none⟩))) false (some "Rows")).run Tryz.prog w = (loadVar 252 ⟨p, 0, none⟩).run Tryz.prog w := by kernel_rfl
theorem mRows_u256 (p : Nat) (w : World) (v : Value) (h : w.cell? ⟨p, 0, none⟩ = some v) : (method 634 259 (V_u256 p) "Rows").run Tryz.prog w = .ok (345, v) w := by
  rw [show 634 = (634 - 2) + 1 + 1 from rfl, mRows1_u256, mRows2_u256]
  simp only [Sem.run_bind, mRows3_u256, load_u256 p w v h, Result.andThen_ok, Sem.run_pure]
theorem mType1_u256 (k p : Nat) (w : World) : (method (k + 1) 259 (V_u256 p) "Type").run Tryz.prog w = (method k 250 (.pointer (some ⟨p, 0, none⟩)) "Type").run Tryz.prog w := by kernel_rfl
theorem mType2_u256 (k p : Nat) (w : World) : (method (k + 1) 250 (.pointer (some ⟨p, 0, none⟩)) "Type").run Tryz.prog w = (do let v ← receiverAt 250 (.val (.pointer (some ⟨p, 0, none⟩))) false (some "Type"); pure (346, v) : Sem (FuncId × Value)).run Tryz.prog w := by kernel_rfl
theorem mType3_u256 (p : Nat) (w : World) : (receiverAt 250 (.val (.pointer (some ⟨p, 0, none⟩))) false (some "Type")).run Tryz.prog w = (loadVar 252 ⟨p, 0, none⟩).run Tryz.prog w := by kernel_rfl
theorem mType_u256 (p : Nat) (w : World) (v : Value) (h : w.cell? ⟨p, 0, none⟩ = some v) : (method 634 259 (V_u256 p) "Type").run Tryz.prog w = .ok (346, v) w := by
  rw [show 634 = (634 - 2) + 1 + 1 from rfl, mType1_u256, mType2_u256]
  simp only [Sem.run_bind, mType3_u256, load_u256 p w v h, Result.andThen_ok, Sem.run_pure]
theorem mEncodeColumn1_u256 (k p : Nat) (w : World) : (method (k + 1) 259 (V_u256 p) "EncodeColumn").run Tryz.prog w = (method k 250 (.pointer (some ⟨p, 0, none⟩)) "EncodeColumn").run Tryz.prog w := by kernel_rfl
theorem mEncodeColumn2_u256 (k p : Nat) (w : World) : (method (k + 1) 250 (.pointer (some ⟨p, 0, none⟩)) "EncodeColumn").run Tryz.prog w = (do let v ← receiverAt 250 (.val (.pointer (some ⟨p, 0, none⟩))) false (some "EncodeColumn"); pure (342, v) : Sem (FuncId × Value)).run Tryz.prog w := by kernel_rfl
theorem mEncodeColumn3_u256 (p : Nat) (w : World) : (receiverAt 250 (.val (.pointer (some ⟨p, 0, none⟩))) false (some "EncodeColumn")).run Tryz.prog w = (loadVar 252 ⟨p, 0, none⟩).run Tryz.prog w := by kernel_rfl
theorem mEncodeColumn_u256 (p : Nat) (w : World) (v : Value) (h : w.cell? ⟨p, 0, none⟩ = some v) : (method 634 259 (V_u256 p) "EncodeColumn").run Tryz.prog w = .ok (342, v) w := by
  rw [show 634 = (634 - 2) + 1 + 1 from rfl, mEncodeColumn1_u256, mEncodeColumn2_u256]
  simp only [Sem.run_bind, mEncodeColumn3_u256, load_u256 p w v h, Result.andThen_ok, Sem.run_pure]
theorem mReset_u256 (p : Nat) (w : World) : (method 634 259 (V_u256 p) "Reset").run Tryz.prog w = .ok (343, .pointer (some ⟨p, 0, none⟩)) w := by kernel_rfl
theorem mDecodeColumn_u256 (p : Nat) (w : World) : (method 634 259 (V_u256 p) "DecodeColumn").run Tryz.prog w = .ok (341, .pointer (some ⟨p, 0, none⟩)) w := by kernel_rfl
theorem mIadd_u256 (p : Nat) (w : World) : (method 634 259 (V_u256 p) "given.example/pub-clapboard/impl.add").run Tryz.prog w = .ok (348, V_u256 p) w := by kernel_rfl
theorem mIat_u256 (p : Nat) (w : World) : (method 634 259 (V_u256 p) "given.example/pub-clapboard/impl.at").run Tryz.prog w = .ok (350, V_u256 p) w := by kernel_rfl
theorem taPrep_u256 (p : Nat) (w : World) : (Instr.typeAssert (.iface 259 (V_u256 p)) 83 213 true).run Tryz.prog w = .ok (.tuple #[.nilIface, .bool false]) w := run_typeAssert_lacksB Tryz.underlying213 (by kernel_rfl) (by kernel_rfl) _ _ w
theorem taState_u256 (p : Nat) (w : World) : (Instr.typeAssert (.iface 259 (V_u256 p)) 83 218 true).run Tryz.prog w = .ok (.tuple #[.nilIface, .bool false]) w := run_typeAssert_lacksB Tryz.underlying218 (by kernel_rfl) (by kernel_rfl) _ _ w
theorem taInfer_u256 (p : Nat) (w : World) : (Instr.typeAssert (.iface 259 (V_u256 p)) 96 384 true).run Tryz.prog w = .ok (.tuple #[.nilIface, .bool false]) w := run_typeAssert_lacksB Tryz.underlying384 (by kernel_rfl) (by kernel_rfl) _ _ w
theorem taStateD_u256 (p : Nat) (w : World) : (Instr.typeAssert (.iface 259 (V_u256 p)) 96 389 true).run Tryz.prog w = .ok (.tuple #[.nilIface, .bool false]) w := run_typeAssert_lacksB Tryz.underlying389 (by kernel_rfl) (by kernel_rfl) _ _ w
theorem colO_u256 (w : World) : Calls Tryz.prog 68 #[.int .i64 12] w fun e w' => e = .returned (.iface 259 (V_u256 w.heap.size)) ∧ w' = w.alloc (.cells #[.slice none 0 0] 252) := by
  go_enter Tryz.func68, Tryz.ntmps68
  simp only [V_u256]
  go_wp2
  go_ret
  exact ⟨rfl, rfl⟩
theorem col_u256 (w : World) : Calls Tryz.prog 31 #[.int .i64 12] w fun e w' => e = .returned (.iface 259 (V_u256 w.heap.size)) ∧ w' = w.alloc (.cells #[.slice none 0 0] 252) := by
  go_enter Tryz.func31, Tryz.ntmps31
  go_wp2_with (go_at_call 68; (with_reducible refine (colO_u256 _).mono ?_); rintro e w1 ⟨rfl, rfl⟩)
  go_ret
  exact ⟨rfl, rfl⟩
/-- UInt256 -/
def K_u256 : Kd := ⟨12, 259, 252, 253, 4, V_u256, "UInt256".toUTF8, 32, cells_u256, bytes_u256, kept_u256, 348, 350, 345, 346, 342, 343, 341⟩
theorem ok_u256 : KdOK K_u256 where
  sz := fun r => rfl
  sz0 := by decide
  wd := fun r => rfl
  wd0 := by decide
  wd1 := by decide
  byt := byt_u256
  nm := by decide
  okk := okk_u256
  col := col_u256
  eAdd := fun _ _ => by kernel_rfl
  eAt := fun _ _ => by kernel_rfl
  eRows := fun _ _ => by kernel_rfl
  eType := fun _ _ => by kernel_rfl
  eEnc := fun _ _ => by kernel_rfl
  eReset := fun _ _ => by kernel_rfl
  eDec := fun _ _ => by kernel_rfl
  mAdd := mIadd_u256
  mAt := mIat_u256
  mRows := mRows_u256
  mType := mType_u256
  mEnc := mEncodeColumn_u256
  mReset := mReset_u256
  mDec := mDecodeColumn_u256
  taPrep := taPrep_u256
  taState := taState_u256
  taInfer := taInfer_u256
  taStateD := taStateD_u256
  add := fun p ar n c rs ao m cp xs w h1 h2 h3 h4 h5 _ => add_u256 p ar n c rs ao m cp xs w h1 h2 h3 h4 h5
  rows := rows_UInt256
  type := type_UInt256
  enc := fun ac n cc rs bp ao m cp bs w hc hrs hb hap hac h0 hn hm => by
    have h := ColUInt256_EncodeColumn ac n cc (rs.map (fun r => [r.a, r.b, r.c, r.d])) (words4 hrs) bp ao m cp bs w (by rw [fm2]; exact hc) hb hap (by omega) (by omega)
    rw [fm2] at h
    exact h
  reset := fun p w h => reset_UInt256 p _ _ w h
  dec := fun p rd bf d ao n rs rest w hrs hR hl h0 h30 hH ho => by
    have h := ColUInt256_DecodeColumn p rd bf d ao n (rs.map (fun r => [r.a, r.b, r.c, r.d])) (words4 hrs) rest w (by rw [fm2]; exact hR) (by rw [List.length_map]; exact hl) h0 h30 hH ho
    rw [fm2] at h
    exact h
  at_ := at_u256
end Go.Proofs.YteimeeepcfcfcaaGreatDoor
