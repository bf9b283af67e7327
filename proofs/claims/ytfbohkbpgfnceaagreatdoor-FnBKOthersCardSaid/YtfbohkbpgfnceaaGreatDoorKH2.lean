/- What the functions of each kind of column do. -/
import Derived.Test.YtfbohkbpgfnceaaGreatDoorKG2
import Derived.Test.YtfbohkbpgfnceaaGreatDoorKF
import Derived.Stop.Asserts
namespace Go.Proofs.YtfbohkbpgfnceaaGreatDoor
set_option linter.unusedVariables false
set_option linter.unusedSimpArgs false
open Go Go.RowKit
/-! ### UInt8 -/
theorem byt_u8 (r : R4) : AllBytes (bytes_u8 r) := by intro u hu; simp [bytes_u8] at hu; subst hu; exact ⟨_, rfl, by rw [wrap_u8]; omega⟩
theorem okk_u8 (r : R4) (hr : Ok4 r) : Ok4 (kept_u8 r) := ⟨by show 0 ≤ IntKind.u8.wrap r.a ∧ IntKind.u8.wrap r.a < _; rw [wrap_u8]; omega, ⟨zz0, zz0, zz0⟩⟩
theorem mRows1_u8 (k p : Nat) (w : World) : (method (k + 1) 170 (V_u8 p) "Rows").run Tryz.prog w = (method k 163 (.pointer (some ⟨p, 0, none⟩)) "Rows").run Tryz.prog w := by kernel_rfl
theorem mRows2_u8 (k p : Nat) (w : World) : (method (k + 1) 163 (.pointer (some ⟨p, 0, none⟩)) "Rows").run Tryz.prog w = (do let v ← receiverAt 163 (.val (.pointer (some ⟨p, 0, none⟩))) false (some "Rows"); pure (279, v) : Sem (FuncId × Value)).run Tryz.prog w := by kernel_rfl
theorem mRows3_u8 (p : Nat) (w : World) : (receiverAt 163 (.val (.pointer (some ⟨p, 0, none⟩))) false (some "Rows")).run Tryz.prog w = (loadVar 164 ⟨p, 0, none⟩).run Tryz.prog w := by kernel_rfl
theorem mRows_u8 (p : Nat) (w : World) (v : Value) (h : w.cell? ⟨p, 0, none⟩ = some v) : (method 625 170 (V_u8 p) "Rows").run Tryz.prog w = .ok (279, v) w := by
  rw [show 625 = (625 - 2) + 1 + 1 from rfl, mRows1_u8, mRows2_u8]
  simp only [Sem.run_bind, mRows3_u8, load_u8 p w v h, Result.andThen_ok, Sem.run_pure]
theorem mType1_u8 (k p : Nat) (w : World) : (method (k + 1) 170 (V_u8 p) "Type").run Tryz.prog w = (method k 163 (.pointer (some ⟨p, 0, none⟩)) "Type").run Tryz.prog w := by kernel_rfl
theorem mType2_u8 (k p : Nat) (w : World) : (method (k + 1) 163 (.pointer (some ⟨p, 0, none⟩)) "Type").run Tryz.prog w = (do let v ← receiverAt 163 (.val (.pointer (some ⟨p, 0, none⟩))) false (some "Type"); pure (280, v) : Sem (FuncId × Value)).run Tryz.prog w := by kernel_rfl
theorem mType3_u8 (p : Nat) (w : World) : (receiverAt 163 (.val (.pointer (some ⟨p, 0, none⟩))) false (some "Type")).run Tryz.prog w = (loadVar 164 ⟨p, 0, none⟩).run Tryz.prog w := by kernel_rfl
theorem mType_u8 (p : Nat) (w : World) (v : Value) (h : w.cell? ⟨p, 0, none⟩ = some v) : (method 625 170 (V_u8 p) "Type").run Tryz.prog w = .ok (280, v) w := by
  rw [show 625 = (625 - 2) + 1 + 1 from rfl, mType1_u8, mType2_u8]
  simp only [Sem.run_bind, mType3_u8, load_u8 p w v h, Result.andThen_ok, Sem.run_pure]
theorem mEncodeColumn1_u8 (k p : Nat) (w : World) : (method (k + 1) 170 (V_u8 p) "EncodeColumn").run Tryz.prog w = (method k 163 (.pointer (some ⟨p, 0, none⟩)) "EncodeColumn").run Tryz.prog w := by kernel_rfl
theorem mEncodeColumn2_u8 (k p : Nat) (w : World) : (method (k + 1) 163 (.pointer (some ⟨p, 0, none⟩)) "EncodeColumn").run Tryz.prog w = (do let v ← receiverAt 163 (.val (.pointer (some ⟨p, 0, none⟩))) false (some "EncodeColumn"); pure (276, v) : Sem (FuncId × Value)).run Tryz.prog w := by kernel_rfl
theorem mEncodeColumn3_u8 (p : Nat) (w : World) : (receiverAt 163 (.val (.pointer (some ⟨p, 0, none⟩))) false (some "EncodeColumn")).run Tryz.prog w = (loadVar 164 ⟨p, 0, none⟩).run Tryz.prog w := by kernel_rfl
theorem mEncodeColumn_u8 (p : Nat) (w : World) (v : Value) (h : w.cell? ⟨p, 0, none⟩ = some v) : (method 625 170 (V_u8 p) "EncodeColumn").run Tryz.prog w = .ok (276, v) w := by
  rw [show 625 = (625 - 2) + 1 + 1 from rfl, mEncodeColumn1_u8, mEncodeColumn2_u8]
  simp only [Sem.run_bind, mEncodeColumn3_u8, load_u8 p w v h, Result.andThen_ok, Sem.run_pure]
theorem mReset_u8 (p : Nat) (w : World) : (method 625 170 (V_u8 p) "Reset").run Tryz.prog w = .ok (277, .pointer (some ⟨p, 0, none⟩)) w := by kernel_rfl
theorem mDecodeColumn_u8 (p : Nat) (w : World) : (method 625 170 (V_u8 p) "DecodeColumn").run Tryz.prog w = .ok (275, .pointer (some ⟨p, 0, none⟩)) w := by kernel_rfl
theorem mIadd_u8 (p : Nat) (w : World) : (method 625 170 (V_u8 p) "given.example/pub-clapboard/impl.add").run Tryz.prog w = .ok (282, V_u8 p) w := by kernel_rfl
theorem mIat_u8 (p : Nat) (w : World) : (method 625 170 (V_u8 p) "given.example/pub-clapboard/impl.at").run Tryz.prog w = .ok (284, V_u8 p) w := by kernel_rfl
theorem taPrep_u8 (p : Nat) (w : World) : (Instr.typeAssert (.iface 170 (V_u8 p)) 76 205 true).run Tryz.prog w = .ok (.tuple #[.nilIface, .bool false]) w := run_typeAssert_lacksB Tryz.underlying205 (by kernel_rfl) (by kernel_rfl) _ _ w
theorem taState_u8 (p : Nat) (w : World) : (Instr.typeAssert (.iface 170 (V_u8 p)) 76 210 true).run Tryz.prog w = .ok (.tuple #[.nilIface, .bool false]) w := run_typeAssert_lacksB Tryz.underlying210 (by kernel_rfl) (by kernel_rfl) _ _ w
theorem taInfer_u8 (p : Nat) (w : World) : (Instr.typeAssert (.iface 170 (V_u8 p)) 89 375 true).run Tryz.prog w = .ok (.tuple #[.nilIface, .bool false]) w := run_typeAssert_lacksB Tryz.underlying375 (by kernel_rfl) (by kernel_rfl) _ _ w
theorem taStateD_u8 (p : Nat) (w : World) : (Instr.typeAssert (.iface 170 (V_u8 p)) 89 380 true).run Tryz.prog w = .ok (.tuple #[.nilIface, .bool false]) w := run_typeAssert_lacksB Tryz.underlying380 (by kernel_rfl) (by kernel_rfl) _ _ w
set_option maxRecDepth 100000 in
set_option maxHeartbeats 1000000 in
theorem col_u8 (w : World) : Calls Tryz.prog 23 #[.int .i64 7] w fun e w' => e = .returned (.iface 170 (V_u8 w.heap.size)) ∧ w' = w.alloc (.cells #[.slice none 0 0] 164) := by
  go_enter Tryz.func23, Tryz.ntmps23
  simp only [V_u8]
  go_wp2
  go_ret
  exact ⟨rfl, rfl⟩
/-- UInt8 -/
def K_u8 : Kd := ⟨7, 170, 164, 5, 1, V_u8, "UInt8".toUTF8, 1, cells_u8, bytes_u8, kept_u8, 282, 284, 279, 280, 276, 277, 275⟩
theorem ok_u8 : KdOK K_u8 where
  sz := fun r => rfl
  sz0 := by decide
  wd := fun r => rfl
  wd0 := by decide
  wd1 := by decide
  byt := byt_u8
  nm := by decide
  okk := okk_u8
  col := col_u8
  eAdd := fun _ _ => by kernel_rfl
  eAt := fun _ _ => by kernel_rfl
  eRows := fun _ _ => by kernel_rfl
  eType := fun _ _ => by kernel_rfl
  eEnc := fun _ _ => by kernel_rfl
  eReset := fun _ _ => by kernel_rfl
  eDec := fun _ _ => by kernel_rfl
  mAdd := mIadd_u8
  mAt := mIat_u8
  mRows := mRows_u8
  mType := mType_u8
  mEnc := mEncodeColumn_u8
  mReset := mReset_u8
  mDec := mDecodeColumn_u8
  taPrep := taPrep_u8
  taState := taState_u8
  taInfer := taInfer_u8
  taStateD := taStateD_u8
  add := fun p ar n c rs ao m cp xs w h1 h2 h3 h4 h5 _ => add_u8 p ar n c rs ao m cp xs w h1 h2 h3 h4 h5
  rows := rows_UInt8
  type := type_UInt8
  enc := fun ac n cc rs bp ao m cp bs w hc hrs hb hap hac h0 hn hm => by
    have h := ColUInt8_EncodeColumn ac n cc (rs.flatMap cells_u8) bp ao m cp bs w hc (by intro u hu; obtain ⟨r, _, hr⟩ := List.mem_flatMap.1 hu; simp [cells_u8] at hr; subst hr; rfl) hb (by omega) (by omega)
    rw [show n * K_u8.width = n from Nat.mul_one n]
    exact h
  reset := fun p w h => reset_UInt8 p _ _ w h
  dec := fun p rd bf d ao n rs rest w hrs hR hl h0 h30 hH ho => by
    have h := ColUInt8_DecodeColumn p rd bf d ao n (rs.flatMap bytes_u8) (AllBytes.flat byt_u8 rs) rest w hR (by rw [flatMap_len _ 1 (fun _ => rfl)]; omega) h0 h30 hH ho
    exact h
  at_ := at_u8
/-! ### UInt16 -/
theorem byt_u16 (r : R4) : AllBytes (bytes_u16 r) := leV_bytes _ _
theorem okk_u16 (r : R4) (hr : Ok4 r) : Ok4 (kept_u16 r) := ⟨by show 0 ≤ IntKind.u16.wrap r.a ∧ IntKind.u16.wrap r.a < _; rw [IntKind.wrap_u16]; omega, ⟨zz0, zz0, zz0⟩⟩
theorem mRows1_u16 (k p : Nat) (w : World) : (method (k + 1) 179 (V_u16 p) "Rows").run Tryz.prog w = (method k 171 (.pointer (some ⟨p, 0, none⟩)) "Rows").run Tryz.prog w := by kernel_rfl
theorem mRows2_u16 (k p : Nat) (w : World) : (method (k + 1) 171 (.pointer (some ⟨p, 0, none⟩)) "Rows").run Tryz.prog w = (do let v ← receiverAt 171 (.val (.pointer (some ⟨p, 0, none⟩))) false (some "Rows"); pure (290, v) : Sem (FuncId × Value)).run Tryz.prog w := by kernel_rfl
theorem mRows3_u16 (p : Nat) (w : World) : (receiverAt 171 (.val (.pointer (some ⟨p, 0, none⟩))) false (some "Rows")).run Tryz.prog w = (loadVar 173 ⟨p, 0, none⟩).run Tryz.prog w := by kernel_rfl
theorem mRows_u16 (p : Nat) (w : World) (v : Value) (h : w.cell? ⟨p, 0, none⟩ = some v) : (method 625 179 (V_u16 p) "Rows").run Tryz.prog w = .ok (290, v) w := by
  rw [show 625 = (625 - 2) + 1 + 1 from rfl, mRows1_u16, mRows2_u16]
  simp only [Sem.run_bind, mRows3_u16, load_u16 p w v h, Result.andThen_ok, Sem.run_pure]
theorem mType1_u16 (k p : Nat) (w : World) : (method (k + 1) 179 (V_u16 p) "Type").run Tryz.prog w = (method k 171 (.pointer (some ⟨p, 0, none⟩)) "Type").run Tryz.prog w := by kernel_rfl
theorem mType2_u16 (k p : Nat) (w : World) : (method (k + 1) 171 (.pointer (some ⟨p, 0, none⟩)) "Type").run Tryz.prog w = (do let v ← receiverAt 171 (.val (.pointer (some ⟨p, 0, none⟩))) false (some "Type"); pure (291, v) : Sem (FuncId × Value)).run Tryz.prog w := by kernel_rfl
theorem mType3_u16 (p : Nat) (w : World) : (receiverAt 171 (.val (.pointer (some ⟨p, 0, none⟩))) false (some "Type")).run Tryz.prog w = (loadVar 173 ⟨p, 0, none⟩).run Tryz.prog w := by kernel_rfl
theorem mType_u16 (p : Nat) (w : World) (v : Value) (h : w.cell? ⟨p, 0, none⟩ = some v) : (method 625 179 (V_u16 p) "Type").run Tryz.prog w = .ok (291, v) w := by
  rw [show 625 = (625 - 2) + 1 + 1 from rfl, mType1_u16, mType2_u16]
  simp only [Sem.run_bind, mType3_u16, load_u16 p w v h, Result.andThen_ok, Sem.run_pure]
theorem mEncodeColumn1_u16 (k p : Nat) (w : World) : (method (k + 1) 179 (V_u16 p) "EncodeColumn").run Tryz.prog w = (method k 171 (.pointer (some ⟨p, 0, none⟩)) "EncodeColumn").run Tryz.prog w := by kernel_rfl
theorem mEncodeColumn2_u16 (k p : Nat) (w : World) : (method (k + 1) 171 (.pointer (some ⟨p, 0, none⟩)) "EncodeColumn").run Tryz.prog w = (do let v ← receiverAt 171 (.val (.pointer (some ⟨p, 0, none⟩))) false (some "EncodeColumn"); pure (287, v) : Sem (FuncId × Value)).run Tryz.prog w := by kernel_rfl
theorem mEncodeColumn3_u16 (p : Nat) (w : World) : (receiverAt 171 (.val (.pointer (some ⟨p, 0, none⟩))) false (some "EncodeColumn")).run Tryz.prog w = (loadVar 173 ⟨p, 0, none⟩).run Tryz.prog w := by kernel_rfl
theorem mEncodeColumn_u16 (p : Nat) (w : World) (v : Value) (h : w.cell? ⟨p, 0, none⟩ = some v) : (method 625 179 (V_u16 p) "EncodeColumn").run Tryz.prog w = .ok (287, v) w := by
  rw [show 625 = (625 - 2) + 1 + 1 from rfl, mEncodeColumn1_u16, mEncodeColumn2_u16]
  simp only [Sem.run_bind, mEncodeColumn3_u16, load_u16 p w v h, Result.andThen_ok, Sem.run_pure]
theorem mReset_u16 (p : Nat) (w : World) : (method 625 179 (V_u16 p) "Reset").run Tryz.prog w = .ok (288, .pointer (some ⟨p, 0, none⟩)) w := by kernel_rfl
theorem mDecodeColumn_u16 (p : Nat) (w : World) : (method 625 179 (V_u16 p) "DecodeColumn").run Tryz.prog w = .ok (286, .pointer (some ⟨p, 0, none⟩)) w := by kernel_rfl
theorem mIadd_u16 (p : Nat) (w : World) : (method 625 179 (V_u16 p) "given.example/pub-clapboard/impl.add").run Tryz.prog w = .ok (293, V_u16 p) w := by kernel_rfl
theorem mIat_u16 (p : Nat) (w : World) : (method 625 179 (V_u16 p) "given.example/pub-clapboard/impl.at").run Tryz.prog w = .ok (295, V_u16 p) w := by kernel_rfl
theorem taPrep_u16 (p : Nat) (w : World) : (Instr.typeAssert (.iface 179 (V_u16 p)) 76 205 true).run Tryz.prog w = .ok (.tuple #[.nilIface, .bool false]) w := run_typeAssert_lacksB Tryz.underlying205 (by kernel_rfl) (by kernel_rfl) _ _ w
theorem taState_u16 (p : Nat) (w : World) : (Instr.typeAssert (.iface 179 (V_u16 p)) 76 210 true).run Tryz.prog w = .ok (.tuple #[.nilIface, .bool false]) w := run_typeAssert_lacksB Tryz.underlying210 (by kernel_rfl) (by kernel_rfl) _ _ w
theorem taInfer_u16 (p : Nat) (w : World) : (Instr.typeAssert (.iface 179 (V_u16 p)) 89 375 true).run Tryz.prog w = .ok (.tuple #[.nilIface, .bool false]) w := run_typeAssert_lacksB Tryz.underlying375 (by kernel_rfl) (by kernel_rfl) _ _ w
theorem taStateD_u16 (p : Nat) (w : World) : (Instr.typeAssert (.iface 179 (V_u16 p)) 89 380 true).run Tryz.prog w = .ok (.tuple #[.nilIface, .bool false]) w := run_typeAssert_lacksB Tryz.underlying380 (by kernel_rfl) (by kernel_rfl) _ _ w
set_option maxRecDepth 100000 in
set_option maxHeartbeats 1000000 in
theorem col_u16 (w : World) : Calls Tryz.prog 23 #[.int .i64 8] w fun e w' => e = .returned (.iface 179 (V_u16 w.heap.size)) ∧ w' = w.alloc (.cells #[.slice none 0 0] 173) := by
  go_enter Tryz.func23, Tryz.ntmps23
  simp only [V_u16]
  go_wp2
  go_ret
  exact ⟨rfl, rfl⟩
/-- UInt16 -/
def K_u16 : Kd := ⟨8, 179, 173, 22, 1, V_u16, "UInt16".toUTF8, 2, cells_u16, bytes_u16, kept_u16, 293, 295, 290, 291, 287, 288, 286⟩
theorem ok_u16 : KdOK K_u16 where
  sz := fun r => rfl
  sz0 := by decide
  wd := fun r => rfl
  wd0 := by decide
  wd1 := by decide
  byt := byt_u16
  nm := by decide
  okk := okk_u16
  col := col_u16
  eAdd := fun _ _ => by kernel_rfl
  eAt := fun _ _ => by kernel_rfl
  eRows := fun _ _ => by kernel_rfl
  eType := fun _ _ => by kernel_rfl
  eEnc := fun _ _ => by kernel_rfl
  eReset := fun _ _ => by kernel_rfl
  eDec := fun _ _ => by kernel_rfl
  mAdd := mIadd_u16
  mAt := mIat_u16
  mRows := mRows_u16
  mType := mType_u16
  mEnc := mEncodeColumn_u16
  mReset := mReset_u16
  mDec := mDecodeColumn_u16
  taPrep := taPrep_u16
  taState := taState_u16
  taInfer := taInfer_u16
  taStateD := taStateD_u16
  add := fun p ar n c rs ao m cp xs w h1 h2 h3 h4 h5 _ => add_u16 p ar n c rs ao m cp xs w h1 h2 h3 h4 h5
  rows := rows_UInt16
  type := type_UInt16
  enc := fun ac n cc rs bp ao m cp bs w hc hrs hb hap hac h0 hn hm => by
    have h := ColUInt16_EncodeColumn ac n cc (rs.map (fun r => IntKind.u16.wrap r.a)) bp ao m cp bs w (by rw [← fm1]; exact hc) hb hap hac (by omega) (by omega)
    rw [fm2] at h
    exact h
  reset := fun p w h => reset_UInt16 p _ _ w h
  dec := fun p rd bf d ao n rs rest w hrs hR hl h0 h30 hH ho => by
    have h := ColUInt16_DecodeColumn p rd bf d ao n (rs.map (fun r => IntKind.u16.wrap r.a)) (by intro x hx; obtain ⟨r, hr, rfl⟩ := List.mem_map.1 hx; (try dsimp only); rw [IntKind.wrap_u16]; omega) rest w (by rw [fm2]; exact hR) (by rw [List.length_map]; exact hl) h0 h30 hH ho
    rw [← fm1] at h
    exact h
  at_ := at_u16
/-! ### UInt32 -/
theorem byt_u32 (r : R4) : AllBytes (bytes_u32 r) := leV_bytes _ _
theorem okk_u32 (r : R4) (hr : Ok4 r) : Ok4 (kept_u32 r) := ⟨by show 0 ≤ IntKind.u32.wrap r.a ∧ IntKind.u32.wrap r.a < _; rw [IntKind.wrap_u32]; omega, ⟨zz0, zz0, zz0⟩⟩
theorem mRows1_u32 (k p : Nat) (w : World) : (method (k + 1) 188 (V_u32 p) "Rows").run Tryz.prog w = (method k 180 (.pointer (some ⟨p, 0, none⟩)) "Rows").run Tryz.prog w := by kernel_rfl
theorem mRows2_u32 (k p : Nat) (w : World) : (method (k + 1) 180 (.pointer (some ⟨p, 0, none⟩)) "Rows").run Tryz.prog w = (do let v ← receiverAt 180 (.val (.pointer (some ⟨p, 0, none⟩))) false (some "Rows"); pure (301, v) : Sem (FuncId × Value)).run Tryz.prog w := by kernel_rfl
theorem mRows3_u32 (p : Nat) (w : World) : (receiverAt 180 (.val (.pointer (some ⟨p, 0, none⟩))) false (some "Rows")).run Tryz.prog w = (loadVar 182 ⟨p, 0, none⟩).run Tryz.prog w := by kernel_rfl
theorem mRows_u32 (p : Nat) (w : World) (v : Value) (h : w.cell? ⟨p, 0, none⟩ = some v) : (method 625 188 (V_u32 p) "Rows").run Tryz.prog w = .ok (301, v) w := by
  rw [show 625 = (625 - 2) + 1 + 1 from rfl, mRows1_u32, mRows2_u32]
  simp only [Sem.run_bind, mRows3_u32, load_u32 p w v h, Result.andThen_ok, Sem.run_pure]
theorem mType1_u32 (k p : Nat) (w : World) : (method (k + 1) 188 (V_u32 p) "Type").run Tryz.prog w = (method k 180 (.pointer (some ⟨p, 0, none⟩)) "Type").run Tryz.prog w := by kernel_rfl
theorem mType2_u32 (k p : Nat) (w : World) : (method (k + 1) 180 (.pointer (some ⟨p, 0, none⟩)) "Type").run Tryz.prog w = (do let v ← receiverAt 180 (.val (.pointer (some ⟨p, 0, none⟩))) false (some "Type"); pure (302, v) : Sem (FuncId × Value)).run Tryz.prog w := by kernel_rfl
theorem mType3_u32 (p : Nat) (w : World) : (receiverAt 180 (.val (.pointer (some ⟨p, 0, none⟩))) false (some "Type")).run Tryz.prog w = (loadVar 182 ⟨p, 0, none⟩).run Tryz.prog w := by kernel_rfl
theorem mType_u32 (p : Nat) (w : World) (v : Value) (h : w.cell? ⟨p, 0, none⟩ = some v) : (method 625 188 (V_u32 p) "Type").run Tryz.prog w = .ok (302, v) w := by
  rw [show 625 = (625 - 2) + 1 + 1 from rfl, mType1_u32, mType2_u32]
  simp only [Sem.run_bind, mType3_u32, load_u32 p w v h, Result.andThen_ok, Sem.run_pure]
theorem mEncodeColumn1_u32 (k p : Nat) (w : World) : (method (k + 1) 188 (V_u32 p) "EncodeColumn").run Tryz.prog w = (method k 180 (.pointer (some ⟨p, 0, none⟩)) "EncodeColumn").run Tryz.prog w := by kernel_rfl
theorem mEncodeColumn2_u32 (k p : Nat) (w : World) : (method (k + 1) 180 (.pointer (some ⟨p, 0, none⟩)) "EncodeColumn").run Tryz.prog w = (do let v ← receiverAt 180 (.val (.pointer (some ⟨p, 0, none⟩))) false (some "EncodeColumn"); pure (298, v) : Sem (FuncId × Value)).run Tryz.prog w := by kernel_rfl
theorem mEncodeColumn3_u32 (p : Nat) (w : World) : (receiverAt 180 (.val (.pointer (some ⟨p, 0, none⟩))) false (some "EncodeColumn")).run Tryz.prog w = (loadVar 182 ⟨p, 0, none⟩).run Tryz.prog w := by kernel_rfl
theorem mEncodeColumn_u32 (p : Nat) (w : World) (v : Value) (h : w.cell? ⟨p, 0, none⟩ = some v) : (method 625 188 (V_u32 p) "EncodeColumn").run Tryz.prog w = .ok (298, v) w := by
  rw [show 625 = (625 - 2) + 1 + 1 from rfl, mEncodeColumn1_u32, mEncodeColumn2_u32]
  simp only [Sem.run_bind, mEncodeColumn3_u32, load_u32 p w v h, Result.andThen_ok, Sem.run_pure]
theorem mReset_u32 (p : Nat) (w : World) : (method 625 188 (V_u32 p) "Reset").run Tryz.prog w = .ok (299, .pointer (some ⟨p, 0, none⟩)) w := by kernel_rfl
theorem mDecodeColumn_u32 (p : Nat) (w : World) : (method 625 188 (V_u32 p) "DecodeColumn").run Tryz.prog w = .ok (297, .pointer (some ⟨p, 0, none⟩)) w := by kernel_rfl
theorem mIadd_u32 (p : Nat) (w : World) : (method 625 188 (V_u32 p) "given.example/pub-clapboard/impl.add").run Tryz.prog w = .ok (304, V_u32 p) w := by kernel_rfl
theorem mIat_u32 (p : Nat) (w : World) : (method 625 188 (V_u32 p) "given.example/pub-clapboard/impl.at").run Tryz.prog w = .ok (306, V_u32 p) w := by kernel_rfl
theorem taPrep_u32 (p : Nat) (w : World) : (Instr.typeAssert (.iface 188 (V_u32 p)) 76 205 true).run Tryz.prog w = .ok (.tuple #[.nilIface, .bool false]) w := run_typeAssert_lacksB Tryz.underlying205 (by kernel_rfl) (by kernel_rfl) _ _ w
theorem taState_u32 (p : Nat) (w : World) : (Instr.typeAssert (.iface 188 (V_u32 p)) 76 210 true).run Tryz.prog w = .ok (.tuple #[.nilIface, .bool false]) w := run_typeAssert_lacksB Tryz.underlying210 (by kernel_rfl) (by kernel_rfl) _ _ w
theorem taInfer_u32 (p : Nat) (w : World) : (Instr.typeAssert (.iface 188 (V_u32 p)) 89 375 true).run Tryz.prog w = .ok (.tuple #[.nilIface, .bool false]) w := run_typeAssert_lacksB Tryz.underlying375 (by kernel_rfl) (by kernel_rfl) _ _ w
theorem taStateD_u32 (p : Nat) (w : World) : (Instr.typeAssert (.iface 188 (V_u32 p)) 89 380 true).run Tryz.prog w = .ok (.tuple #[.nilIface, .bool false]) w := run_typeAssert_lacksB Tryz.underlying380 (by kernel_rfl) (by kernel_rfl) _ _ w
set_option maxRecDepth 100000 in
set_option maxHeartbeats 1000000 in
theorem col_u32 (w : World) : Calls Tryz.prog 23 #[.int .i64 9] w fun e w' => e = .returned (.iface 188 (V_u32 w.heap.size)) ∧ w' = w.alloc (.cells #[.slice none 0 0] 182) := by
  go_enter Tryz.func23, Tryz.ntmps23
  simp only [V_u32]
  go_wp2
  go_ret
  exact ⟨rfl, rfl⟩
/-- UInt32 -/
def K_u32 : Kd := ⟨9, 188, 182, 69, 1, V_u32, "UInt32".toUTF8, 4, cells_u32, bytes_u32, kept_u32, 304, 306, 301, 302, 298, 299, 297⟩
theorem ok_u32 : KdOK K_u32 where
  sz := fun r => rfl
  sz0 := by decide
  wd := fun r => rfl
  wd0 := by decide
  wd1 := by decide
  byt := byt_u32
  nm := by decide
  okk := okk_u32
  col := col_u32
  eAdd := fun _ _ => by kernel_rfl
  eAt := fun _ _ => by kernel_rfl
  eRows := fun _ _ => by kernel_rfl
  eType := fun _ _ => by kernel_rfl
  eEnc := fun _ _ => by kernel_rfl
  eReset := fun _ _ => by kernel_rfl
  eDec := fun _ _ => by kernel_rfl
  mAdd := mIadd_u32
  mAt := mIat_u32
  mRows := mRows_u32
  mType := mType_u32
  mEnc := mEncodeColumn_u32
  mReset := mReset_u32
  mDec := mDecodeColumn_u32
  taPrep := taPrep_u32
  taState := taState_u32
  taInfer := taInfer_u32
  taStateD := taStateD_u32
  add := fun p ar n c rs ao m cp xs w h1 h2 h3 h4 h5 _ => add_u32 p ar n c rs ao m cp xs w h1 h2 h3 h4 h5
  rows := rows_UInt32
  type := type_UInt32
  enc := fun ac n cc rs bp ao m cp bs w hc hrs hb hap hac h0 hn hm => by
    have h := ColUInt32_EncodeColumn ac n cc (rs.map (fun r => IntKind.u32.wrap r.a)) bp ao m cp bs w (by rw [← fm1]; exact hc) hb hap hac (by omega) (by omega)
    rw [fm2] at h
    exact h
  reset := fun p w h => reset_UInt32 p _ _ w h
  dec := fun p rd bf d ao n rs rest w hrs hR hl h0 h30 hH ho => by
    have h := ColUInt32_DecodeColumn p rd bf d ao n (rs.map (fun r => IntKind.u32.wrap r.a)) (by intro x hx; obtain ⟨r, hr, rfl⟩ := List.mem_map.1 hx; (try dsimp only); rw [IntKind.wrap_u32]; omega) rest w (by rw [fm2]; exact hR) (by rw [List.length_map]; exact hl) h0 h30 hH ho
    rw [← fm1] at h
    exact h
  at_ := at_u32
/-! ### UInt64 -/
theorem byt_u64 (r : R4) : AllBytes (bytes_u64 r) := leV_bytes _ _
theorem okk_u64 (r : R4) (hr : Ok4 r) : Ok4 (kept_u64 r) := ⟨hr.1, ⟨zz0, zz0, zz0⟩⟩
theorem mRows1_u64 (k p : Nat) (w : World) : (method (k + 1) 197 (V_u64 p) "Rows").run Tryz.prog w = (method k 189 (.pointer (some ⟨p, 0, none⟩)) "Rows").run Tryz.prog w := by kernel_rfl
theorem mRows2_u64 (k p : Nat) (w : World) : (method (k + 1) 189 (.pointer (some ⟨p, 0, none⟩)) "Rows").run Tryz.prog w = (do let v ← receiverAt 189 (.val (.pointer (some ⟨p, 0, none⟩))) false (some "Rows"); pure (312, v) : Sem (FuncId × Value)).run Tryz.prog w := by kernel_rfl
theorem mRows3_u64 (p : Nat) (w : World) : (receiverAt 189 (.val (.pointer (some ⟨p, 0, none⟩))) false (some "Rows")).run Tryz.prog w = (loadVar 191 ⟨p, 0, none⟩).run Tryz.prog w := by kernel_rfl
theorem mRows_u64 (p : Nat) (w : World) (v : Value) (h : w.cell? ⟨p, 0, none⟩ = some v) : (method 625 197 (V_u64 p) "Rows").run Tryz.prog w = .ok (312, v) w := by
  rw [show 625 = (625 - 2) + 1 + 1 from rfl, mRows1_u64, mRows2_u64]
  simp only [Sem.run_bind, mRows3_u64, load_u64 p w v h, Result.andThen_ok, Sem.run_pure]
theorem mType1_u64 (k p : Nat) (w : World) : (method (k + 1) 197 (V_u64 p) "Type").run Tryz.prog w = (method k 189 (.pointer (some ⟨p, 0, none⟩)) "Type").run Tryz.prog w := by kernel_rfl
theorem mType2_u64 (k p : Nat) (w : World) : (method (k + 1) 189 (.pointer (some ⟨p, 0, none⟩)) "Type").run Tryz.prog w = (do let v ← receiverAt 189 (.val (.pointer (some ⟨p, 0, none⟩))) false (some "Type"); pure (313, v) : Sem (FuncId × Value)).run Tryz.prog w := by kernel_rfl
theorem mType3_u64 (p : Nat) (w : World) : (receiverAt 189 (.val (.pointer (some ⟨p, 0, none⟩))) false (some "Type")).run Tryz.prog w = (loadVar 191 ⟨p, 0, none⟩).run Tryz.prog w := by kernel_rfl
theorem mType_u64 (p : Nat) (w : World) (v : Value) (h : w.cell? ⟨p, 0, none⟩ = some v) : (method 625 197 (V_u64 p) "Type").run Tryz.prog w = .ok (313, v) w := by
  rw [show 625 = (625 - 2) + 1 + 1 from rfl, mType1_u64, mType2_u64]
  simp only [Sem.run_bind, mType3_u64, load_u64 p w v h, Result.andThen_ok, Sem.run_pure]
theorem mEncodeColumn1_u64 (k p : Nat) (w : World) : (method (k + 1) 197 (V_u64 p) "EncodeColumn").run Tryz.prog w = (method k 189 (.pointer (some ⟨p, 0, none⟩)) "EncodeColumn").run Tryz.prog w := by kernel_rfl
theorem mEncodeColumn2_u64 (k p : Nat) (w : World) : (method (k + 1) 189 (.pointer (some ⟨p, 0, none⟩)) "EncodeColumn").run Tryz.prog w = (do let v ← receiverAt 189 (.val (.pointer (some ⟨p, 0, none⟩))) false (some "EncodeColumn"); pure (309, v) : Sem (FuncId × Value)).run Tryz.prog w := by kernel_rfl
theorem mEncodeColumn3_u64 (p : Nat) (w : World) : (receiverAt 189 (.val (.pointer (some ⟨p, 0, none⟩))) false (some "EncodeColumn")).run Tryz.prog w = (loadVar 191 ⟨p, 0, none⟩).run Tryz.prog w := by kernel_rfl
theorem mEncodeColumn_u64 (p : Nat) (w : World) (v : Value) (h : w.cell? ⟨p, 0, none⟩ = some v) : (method 625 197 (V_u64 p) "EncodeColumn").run Tryz.prog w = .ok (309, v) w := by
  rw [show 625 = (625 - 2) + 1 + 1 from rfl, mEncodeColumn1_u64, mEncodeColumn2_u64]
  simp only [Sem.run_bind, mEncodeColumn3_u64, load_u64 p w v h, Result.andThen_ok, Sem.run_pure]
theorem mReset_u64 (p : Nat) (w : World) : (method 625 197 (V_u64 p) "Reset").run Tryz.prog w = .ok (310, .pointer (some ⟨p, 0, none⟩)) w := by kernel_rfl
theorem mDecodeColumn_u64 (p : Nat) (w : World) : (method 625 197 (V_u64 p) "DecodeColumn").run Tryz.prog w = .ok (308, .pointer (some ⟨p, 0, none⟩)) w := by kernel_rfl
theorem mIadd_u64 (p : Nat) (w : World) : (method 625 197 (V_u64 p) "given.example/pub-clapboard/impl.add").run Tryz.prog w = .ok (315, V_u64 p) w := by kernel_rfl
theorem mIat_u64 (p : Nat) (w : World) : (method 625 197 (V_u64 p) "given.example/pub-clapboard/impl.at").run Tryz.prog w = .ok (317, V_u64 p) w := by kernel_rfl
theorem taPrep_u64 (p : Nat) (w : World) : (Instr.typeAssert (.iface 197 (V_u64 p)) 76 205 true).run Tryz.prog w = .ok (.tuple #[.nilIface, .bool false]) w := run_typeAssert_lacksB Tryz.underlying205 (by kernel_rfl) (by kernel_rfl) _ _ w
theorem taState_u64 (p : Nat) (w : World) : (Instr.typeAssert (.iface 197 (V_u64 p)) 76 210 true).run Tryz.prog w = .ok (.tuple #[.nilIface, .bool false]) w := run_typeAssert_lacksB Tryz.underlying210 (by kernel_rfl) (by kernel_rfl) _ _ w
theorem taInfer_u64 (p : Nat) (w : World) : (Instr.typeAssert (.iface 197 (V_u64 p)) 89 375 true).run Tryz.prog w = .ok (.tuple #[.nilIface, .bool false]) w := run_typeAssert_lacksB Tryz.underlying375 (by kernel_rfl) (by kernel_rfl) _ _ w
theorem taStateD_u64 (p : Nat) (w : World) : (Instr.typeAssert (.iface 197 (V_u64 p)) 89 380 true).run Tryz.prog w = .ok (.tuple #[.nilIface, .bool false]) w := run_typeAssert_lacksB Tryz.underlying380 (by kernel_rfl) (by kernel_rfl) _ _ w
set_option maxRecDepth 100000 in
set_option maxHeartbeats 1000000 in
theorem col_u64 (w : World) : Calls Tryz.prog 23 #[.int .i64 10] w fun e w' => e = .returned (.iface 197 (V_u64 w.heap.size)) ∧ w' = w.alloc (.cells #[.slice none 0 0] 191) := by
  go_enter Tryz.func23, Tryz.ntmps23
  simp only [V_u64]
  go_wp2
  go_ret
  exact ⟨rfl, rfl⟩
/-- UInt64 -/
def K_u64 : Kd := ⟨10, 197, 191, 65, 1, V_u64, "UInt64".toUTF8, 8, cells_u64, bytes_u64, kept_u64, 315, 317, 312, 313, 309, 310, 308⟩
theorem ok_u64 : KdOK K_u64 where
  sz := fun r => rfl
  sz0 := by decide
  wd := fun r => rfl
  wd0 := by decide
  wd1 := by decide
  byt := byt_u64
  nm := by decide
  okk := okk_u64
  col := col_u64
  eAdd := fun _ _ => by kernel_rfl
  eAt := fun _ _ => by kernel_rfl
  eRows := fun _ _ => by kernel_rfl
  eType := fun _ _ => by kernel_rfl
  eEnc := fun _ _ => by kernel_rfl
  eReset := fun _ _ => by kernel_rfl
  eDec := fun _ _ => by kernel_rfl
  mAdd := mIadd_u64
  mAt := mIat_u64
  mRows := mRows_u64
  mType := mType_u64
  mEnc := mEncodeColumn_u64
  mReset := mReset_u64
  mDec := mDecodeColumn_u64
  taPrep := taPrep_u64
  taState := taState_u64
  taInfer := taInfer_u64
  taStateD := taStateD_u64
  add := fun p ar n c rs ao m cp xs w h1 h2 h3 h4 h5 _ => add_u64 p ar n c rs ao m cp xs w h1 h2 h3 h4 h5
  rows := rows_UInt64
  type := type_UInt64
  enc := fun ac n cc rs bp ao m cp bs w hc hrs hb hap hac h0 hn hm => by
    have h := ColUInt64_EncodeColumn ac n cc (rs.map (fun r => r.a)) bp ao m cp bs w (by rw [← fm1]; exact hc) hb hap hac (by omega) (by omega)
    rw [fm2] at h
    exact h
  reset := fun p w h => reset_UInt64 p _ _ w h
  dec := fun p rd bf d ao n rs rest w hrs hR hl h0 h30 hH ho => by
    have h := ColUInt64_DecodeColumn p rd bf d ao n (rs.map (fun r => r.a)) (by intro x hx; obtain ⟨r, hr, rfl⟩ := List.mem_map.1 hx; (try dsimp only); exact (hrs r hr).1) rest w (by rw [fm2]; exact hR) (by rw [List.length_map]; exact hl) h0 h30 hH ho
    rw [← fm1] at h
    exact h
  at_ := at_u64
/-! ### UInt128 -/
theorem byt_u128 (r : R4) : AllBytes (bytes_u128 r) := wbyte_bytes _
theorem okk_u128 (r : R4) (hr : Ok4 r) : Ok4 (kept_u128 r) := ⟨hr.1, hr.2.1, zz0, zz0⟩
theorem mRows1_u128 (k p : Nat) (w : World) : (method (k + 1) 240 (V_u128 p) "Rows").run Tryz.prog w = (method k 233 (.pointer (some ⟨p, 0, none⟩)) "Rows").run Tryz.prog w := by kernel_rfl
theorem mRows2_u128 (k p : Nat) (w : World) : (method (k + 1) 233 (.pointer (some ⟨p, 0, none⟩)) "Rows").run Tryz.prog w = (do let v ← receiverAt 233 (.val (.pointer (some ⟨p, 0, none⟩))) false (some "Rows"); pure (324, v) : Sem (FuncId × Value)).run Tryz.prog w := by kernel_rfl
theorem mRows3_u128 (p : Nat) (w : World) : (receiverAt 233 (.val (.pointer (some ⟨p, 0, none⟩))) false (some "Rows")).run Tryz.prog w = (loadVar 235 ⟨p, 0, none⟩).run Tryz.prog w := by kernel_rfl
theorem mRows_u128 (p : Nat) (w : World) (v : Value) (h : w.cell? ⟨p, 0, none⟩ = some v) : (method 625 240 (V_u128 p) "Rows").run Tryz.prog w = .ok (324, v) w := by
  rw [show 625 = (625 - 2) + 1 + 1 from rfl, mRows1_u128, mRows2_u128]
  simp only [Sem.run_bind, mRows3_u128, load_u128 p w v h, Result.andThen_ok, Sem.run_pure]
theorem mType1_u128 (k p : Nat) (w : World) : (method (k + 1) 240 (V_u128 p) "Type").run Tryz.prog w = (method k 233 (.pointer (some ⟨p, 0, none⟩)) "Type").run Tryz.prog w := by kernel_rfl
theorem mType2_u128 (k p : Nat) (w : World) : (method (k + 1) 233 (.pointer (some ⟨p, 0, none⟩)) "Type").run Tryz.prog w = (do let v ← receiverAt 233 (.val (.pointer (some ⟨p, 0, none⟩))) false (some "Type"); pure (325, v) : Sem (FuncId × Value)).run Tryz.prog w := by kernel_rfl
theorem mType3_u128 (p : Nat) (w : World) : (receiverAt 233 (.val (.pointer (some ⟨p, 0, none⟩))) false (some "Type")).run Tryz.prog w = (loadVar 235 ⟨p, 0, none⟩).run Tryz.prog w := by kernel_rfl
theorem mType_u128 (p : Nat) (w : World) (v : Value) (h : w.cell? ⟨p, 0, none⟩ = some v) : (method 625 240 (V_u128 p) "Type").run Tryz.prog w = .ok (325, v) w := by
  rw [show 625 = (625 - 2) + 1 + 1 from rfl, mType1_u128, mType2_u128]
  simp only [Sem.run_bind, mType3_u128, load_u128 p w v h, Result.andThen_ok, Sem.run_pure]
theorem mEncodeColumn1_u128 (k p : Nat) (w : World) : (method (k + 1) 240 (V_u128 p) "EncodeColumn").run Tryz.prog w = (method k 233 (.pointer (some ⟨p, 0, none⟩)) "EncodeColumn").run Tryz.prog w := by kernel_rfl
theorem mEncodeColumn2_u128 (k p : Nat) (w : World) : (method (k + 1) 233 (.pointer (some ⟨p, 0, none⟩)) "EncodeColumn").run Tryz.prog w = (do let v ← receiverAt 233 (.val (.pointer (some ⟨p, 0, none⟩))) false (some "EncodeColumn"); pure (321, v) : Sem (FuncId × Value)).run Tryz.prog w := by kernel_rfl
theorem mEncodeColumn3_u128 (p : Nat) (w : World) : (receiverAt 233 (.val (.pointer (some ⟨p, 0, none⟩))) false (some "EncodeColumn")).run Tryz.prog w = (loadVar 235 ⟨p, 0, none⟩).run Tryz.prog w := by kernel_rfl
theorem mEncodeColumn_u128 (p : Nat) (w : World) (v : Value) (h : w.cell? ⟨p, 0, none⟩ = some v) : (method 625 240 (V_u128 p) "EncodeColumn").run Tryz.prog w = .ok (321, v) w := by
  rw [show 625 = (625 - 2) + 1 + 1 from rfl, mEncodeColumn1_u128, mEncodeColumn2_u128]
  simp only [Sem.run_bind, mEncodeColumn3_u128, load_u128 p w v h, Result.andThen_ok, Sem.run_pure]
theorem mReset_u128 (p : Nat) (w : World) : (method 625 240 (V_u128 p) "Reset").run Tryz.prog w = .ok (322, .pointer (some ⟨p, 0, none⟩)) w := by kernel_rfl
theorem mDecodeColumn_u128 (p : Nat) (w : World) : (method 625 240 (V_u128 p) "DecodeColumn").run Tryz.prog w = .ok (320, .pointer (some ⟨p, 0, none⟩)) w := by kernel_rfl
theorem mIadd_u128 (p : Nat) (w : World) : (method 625 240 (V_u128 p) "given.example/pub-clapboard/impl.add").run Tryz.prog w = .ok (327, V_u128 p) w := by kernel_rfl
theorem mIat_u128 (p : Nat) (w : World) : (method 625 240 (V_u128 p) "given.example/pub-clapboard/impl.at").run Tryz.prog w = .ok (329, V_u128 p) w := by kernel_rfl
theorem taPrep_u128 (p : Nat) (w : World) : (Instr.typeAssert (.iface 240 (V_u128 p)) 76 205 true).run Tryz.prog w = .ok (.tuple #[.nilIface, .bool false]) w := run_typeAssert_lacksB Tryz.underlying205 (by kernel_rfl) (by kernel_rfl) _ _ w
theorem taState_u128 (p : Nat) (w : World) : (Instr.typeAssert (.iface 240 (V_u128 p)) 76 210 true).run Tryz.prog w = .ok (.tuple #[.nilIface, .bool false]) w := run_typeAssert_lacksB Tryz.underlying210 (by kernel_rfl) (by kernel_rfl) _ _ w
theorem taInfer_u128 (p : Nat) (w : World) : (Instr.typeAssert (.iface 240 (V_u128 p)) 89 375 true).run Tryz.prog w = .ok (.tuple #[.nilIface, .bool false]) w := run_typeAssert_lacksB Tryz.underlying375 (by kernel_rfl) (by kernel_rfl) _ _ w
theorem taStateD_u128 (p : Nat) (w : World) : (Instr.typeAssert (.iface 240 (V_u128 p)) 89 380 true).run Tryz.prog w = .ok (.tuple #[.nilIface, .bool false]) w := run_typeAssert_lacksB Tryz.underlying380 (by kernel_rfl) (by kernel_rfl) _ _ w
set_option maxRecDepth 100000 in
set_option maxHeartbeats 1000000 in
theorem colO_u128 (w : World) : Calls Tryz.prog 59 #[.int .i64 11] w fun e w' => e = .returned (.iface 240 (V_u128 w.heap.size)) ∧ w' = w.alloc (.cells #[.slice none 0 0] 235) := by
  go_enter Tryz.func59, Tryz.ntmps59
  simp only [V_u128]
  go_wp2
  go_ret
  exact ⟨rfl, rfl⟩
set_option maxRecDepth 100000 in
set_option maxHeartbeats 1000000 in
theorem col_u128 (w : World) : Calls Tryz.prog 23 #[.int .i64 11] w fun e w' => e = .returned (.iface 240 (V_u128 w.heap.size)) ∧ w' = w.alloc (.cells #[.slice none 0 0] 235) := by
  go_enter Tryz.func23, Tryz.ntmps23
  go_wp2_with (go_at_call 59; (with_reducible refine (colO_u128 _).mono ?_); rintro e w1 ⟨rfl, rfl⟩)
  go_ret
  exact ⟨rfl, rfl⟩
/-- UInt128 -/
def K_u128 : Kd := ⟨11, 240, 235, 143, 2, V_u128, "UInt128".toUTF8, 16, cells_u128, bytes_u128, kept_u128, 327, 329, 324, 325, 321, 322, 320⟩
theorem ok_u128 : KdOK K_u128 where
  sz := fun r => rfl
  sz0 := by decide
  wd := fun r => rfl
  wd0 := by decide
  wd1 := by decide
  byt := byt_u128
  nm := by decide
  okk := okk_u128
  col := col_u128
  eAdd := fun _ _ => by kernel_rfl
  eAt := fun _ _ => by kernel_rfl
  eRows := fun _ _ => by kernel_rfl
  eType := fun _ _ => by kernel_rfl
  eEnc := fun _ _ => by kernel_rfl
  eReset := fun _ _ => by kernel_rfl
  eDec := fun _ _ => by kernel_rfl
  mAdd := mIadd_u128
  mAt := mIat_u128
  mRows := mRows_u128
  mType := mType_u128
  mEnc := mEncodeColumn_u128
  mReset := mReset_u128
  mDec := mDecodeColumn_u128
  taPrep := taPrep_u128
  taState := taState_u128
  taInfer := taInfer_u128
  taStateD := taStateD_u128
  add := fun p ar n c rs ao m cp xs w h1 h2 h3 h4 h5 _ => add_u128 p ar n c rs ao m cp xs w h1 h2 h3 h4 h5
  rows := rows_UInt128
  type := type_UInt128
  enc := fun ac n cc rs bp ao m cp bs w hc hrs hb hap hac h0 hn hm => by
    have h := ColUInt128_EncodeColumn ac n cc (rs.map (fun r => [r.a, r.b])) (words2 hrs) bp ao m cp bs w (by rw [fm2]; exact hc) hb hap (by omega) (by omega)
    rw [fm2] at h
    exact h
  reset := fun p w h => reset_UInt128 p _ _ w h
  dec := fun p rd bf d ao n rs rest w hrs hR hl h0 h30 hH ho => by
    have h := ColUInt128_DecodeColumn p rd bf d ao n (rs.map (fun r => [r.a, r.b])) (words2 hrs) rest w (by rw [fm2]; exact hR) (by rw [List.length_map]; exact hl) h0 h30 hH ho
    rw [fm2] at h
    exact h
  at_ := at_u128
/-! ### UInt256 -/
theorem byt_u256 (r : R4) : AllBytes (bytes_u256 r) := wbyte_bytes _
theorem okk_u256 (r : R4) (hr : Ok4 r) : Ok4 (kept_u256 r) := hr
theorem mRows1_u256 (k p : Nat) (w : World) : (method (k + 1) 250 (V_u256 p) "Rows").run Tryz.prog w = (method k 241 (.pointer (some ⟨p, 0, none⟩)) "Rows").run Tryz.prog w := by kernel_rfl
theorem mRows2_u256 (k p : Nat) (w : World) : (method (k + 1) 241 (.pointer (some ⟨p, 0, none⟩)) "Rows").run Tryz.prog w = (do let v ← receiverAt 241 (.val (.pointer (some ⟨p, 0, none⟩))) false (some "Rows"); pure (335, v) : Sem (FuncId × Value)).run Tryz.prog w := by kernel_rfl
theorem mRows3_u256 (p : Nat) (w : World) : (receiverAt 241 (.val (.pointer (some ⟨p, 0, none⟩))) false (some "Rows")).run Tryz.prog w = (loadVar 243 ⟨p, 0, none⟩).run Tryz.prog w := by kernel_rfl
theorem mRows_u256 (p : Nat) (w : World) (v : Value) (h : w.cell? ⟨p, 0, none⟩ = some v) : (method 625 250 (V_u256 p) "Rows").run Tryz.prog w = .ok (335, v) w := by
  rw [show 625 = (625 - 2) + 1 + 1 from rfl, mRows1_u256, mRows2_u256]
  simp only [Sem.run_bind, mRows3_u256, load_u256 p w v h, Result.andThen_ok, Sem.run_pure]
theorem mType1_u256 (k p : Nat) (w : World) : (method (k + 1) 250 (V_u256 p) "Type").run Tryz.prog w = (method k 241 (.pointer (some ⟨p, 0, none⟩)) "Type").run Tryz.prog w := by kernel_rfl
theorem mType2_u256 (k p : Nat) (w : World) : (method (k + 1) 241 (.pointer (some ⟨p, 0, none⟩)) "Type").run Tryz.prog w = (do let v ← receiverAt 241 (.val (.pointer (some ⟨p, 0, none⟩))) false (some "Type"); pure (336, v) : Sem (FuncId × Value)).run Tryz.prog w := by kernel_rfl
theorem mType3_u256 (p : Nat) (w : World) : (receiverAt 241 (.val (.pointer (some ⟨p, 0, none⟩))) false (some "Type")).run Tryz.prog w = (loadVar 243 ⟨p, 0, none⟩).run Tryz.prog w := by kernel_rfl
theorem mType_u256 (p : Nat) (w : World) (v : Value) (h : w.cell? ⟨p, 0, none⟩ = some v) : (method 625 250 (V_u256 p) "Type").run Tryz.prog w = .ok (336, v) w := by
  rw [show 625 = (625 - 2) + 1 + 1 from rfl, mType1_u256, mType2_u256]
  simp only [Sem.run_bind, mType3_u256, load_u256 p w v h, Result.andThen_ok, Sem.run_pure]
theorem mEncodeColumn1_u256 (k p : Nat) (w : World) : (method (k + 1) 250 (V_u256 p) "EncodeColumn").run Tryz.prog w = (method k 241 (.pointer (some ⟨p, 0, none⟩)) "EncodeColumn").run Tryz.prog w := by kernel_rfl
theorem mEncodeColumn2_u256 (k p : Nat) (w : World) : (method (k + 1) 241 (.pointer (some ⟨p, 0, none⟩)) "EncodeColumn").run Tryz.prog w = (do let v ← receiverAt 241 (.val (.pointer (some ⟨p, 0, none⟩))) false (some "EncodeColumn"); pure (332, v) : Sem (FuncId × Value)).run Tryz.prog w := by kernel_rfl
theorem mEncodeColumn3_u256 (p : Nat) (w : World) : (receiverAt 241 (.val (.pointer (some ⟨p, 0, none⟩))) false (some "EncodeColumn")).run Tryz.prog w = (loadVar 243 ⟨p, 0, none⟩).run Tryz.prog w := by kernel_rfl
theorem mEncodeColumn_u256 (p : Nat) (w : World) (v : Value) (h : w.cell? ⟨p, 0, none⟩ = some v) : (method 625 250 (V_u256 p) "EncodeColumn").run Tryz.prog w = .ok (332, v) w := by
  rw [show 625 = (625 - 2) + 1 + 1 from rfl, mEncodeColumn1_u256, mEncodeColumn2_u256]
  simp only [Sem.run_bind, mEncodeColumn3_u256, load_u256 p w v h, Result.andThen_ok, Sem.run_pure]
theorem mReset_u256 (p : Nat) (w : World) : (method 625 250 (V_u256 p) "Reset").run Tryz.prog w = .ok (333, .pointer (some ⟨p, 0, none⟩)) w := by kernel_rfl
theorem mDecodeColumn_u256 (p : Nat) (w : World) : (method 625 250 (V_u256 p) "DecodeColumn").run Tryz.prog w = .ok (331, .pointer (some ⟨p, 0, none⟩)) w := by kernel_rfl
theorem mIadd_u256 (p : Nat) (w : World) : (method 625 250 (V_u256 p) "given.example/pub-clapboard/impl.add").run Tryz.prog w = .ok (338, V_u256 p) w := by kernel_rfl
theorem mIat_u256 (p : Nat) (w : World) : (method 625 250 (V_u256 p) "given.example/pub-clapboard/impl.at").run Tryz.prog w = .ok (340, V_u256 p) w := by kernel_rfl
theorem taPrep_u256 (p : Nat) (w : World) : (Instr.typeAssert (.iface 250 (V_u256 p)) 76 205 true).run Tryz.prog w = .ok (.tuple #[.nilIface, .bool false]) w := run_typeAssert_lacksB Tryz.underlying205 (by kernel_rfl) (by kernel_rfl) _ _ w
theorem taState_u256 (p : Nat) (w : World) : (Instr.typeAssert (.iface 250 (V_u256 p)) 76 210 true).run Tryz.prog w = .ok (.tuple #[.nilIface, .bool false]) w := run_typeAssert_lacksB Tryz.underlying210 (by kernel_rfl) (by kernel_rfl) _ _ w
theorem taInfer_u256 (p : Nat) (w : World) : (Instr.typeAssert (.iface 250 (V_u256 p)) 89 375 true).run Tryz.prog w = .ok (.tuple #[.nilIface, .bool false]) w := run_typeAssert_lacksB Tryz.underlying375 (by kernel_rfl) (by kernel_rfl) _ _ w
theorem taStateD_u256 (p : Nat) (w : World) : (Instr.typeAssert (.iface 250 (V_u256 p)) 89 380 true).run Tryz.prog w = .ok (.tuple #[.nilIface, .bool false]) w := run_typeAssert_lacksB Tryz.underlying380 (by kernel_rfl) (by kernel_rfl) _ _ w
set_option maxRecDepth 100000 in
set_option maxHeartbeats 1000000 in
theorem colO_u256 (w : World) : Calls Tryz.prog 59 #[.int .i64 12] w fun e w' => e = .returned (.iface 250 (V_u256 w.heap.size)) ∧ w' = w.alloc (.cells #[.slice none 0 0] 243) := by
  go_enter Tryz.func59, Tryz.ntmps59
  simp only [V_u256]
  go_wp2
  go_ret
  exact ⟨rfl, rfl⟩
set_option maxRecDepth 100000 in
set_option maxHeartbeats 1000000 in
theorem col_u256 (w : World) : Calls Tryz.prog 23 #[.int .i64 12] w fun e w' => e = .returned (.iface 250 (V_u256 w.heap.size)) ∧ w' = w.alloc (.cells #[.slice none 0 0] 243) := by
  go_enter Tryz.func23, Tryz.ntmps23
  go_wp2_with (go_at_call 59; (with_reducible refine (colO_u256 _).mono ?_); rintro e w1 ⟨rfl, rfl⟩)
  go_ret
  exact ⟨rfl, rfl⟩
/-- UInt256 -/
def K_u256 : Kd := ⟨12, 250, 243, 244, 4, V_u256, "UInt256".toUTF8, 32, cells_u256, bytes_u256, kept_u256, 338, 340, 335, 336, 332, 333, 331⟩
theorem ok_u256 : KdOK K_u256 where
  sz := fun r => rfl
  sz0 := by decide
  wd := fun r => rfl
  wd0 := by decide
  wd1 := by decide
  byt := byt_u256
  nm := by decide
  okk := okk_u256
  col := col_u256
  eAdd := fun _ _ => by kernel_rfl
  eAt := fun _ _ => by kernel_rfl
  eRows := fun _ _ => by kernel_rfl
  eType := fun _ _ => by kernel_rfl
  eEnc := fun _ _ => by kernel_rfl
  eReset := fun _ _ => by kernel_rfl
  eDec := fun _ _ => by kernel_rfl
  mAdd := mIadd_u256
  mAt := mIat_u256
  mRows := mRows_u256
  mType := mType_u256
  mEnc := mEncodeColumn_u256
  mReset := mReset_u256
  mDec := mDecodeColumn_u256
  taPrep := taPrep_u256
  taState := taState_u256
  taInfer := taInfer_u256
  taStateD := taStateD_u256
  add := fun p ar n c rs ao m cp xs w h1 h2 h3 h4 h5 _ => add_u256 p ar n c rs ao m cp xs w h1 h2 h3 h4 h5
  rows := rows_UInt256
  type := type_UInt256
  enc := fun ac n cc rs bp ao m cp bs w hc hrs hb hap hac h0 hn hm => by
    have h := ColUInt256_EncodeColumn ac n cc (rs.map (fun r => [r.a, r.b, r.c, r.d])) (words4 hrs) bp ao m cp bs w (by rw [fm2]; exact hc) hb hap (by omega) (by omega)
    rw [fm2] at h
    exact h
  reset := fun p w h => reset_UInt256 p _ _ w h
  dec := fun p rd bf d ao n rs rest w hrs hR hl h0 h30 hH ho => by
    have h := ColUInt256_DecodeColumn p rd bf d ao n (rs.map (fun r => [r.a, r.b, r.c, r.d])) (words4 hrs) rest w (by rw [fm2]; exact hR) (by rw [List.length_map]; exact hl) h0 h30 hH ho
    rw [fm2] at h
    exact h
  at_ := at_u256
end Go.Proofs.YtfbohkbpgfnceaaGreatDoor
