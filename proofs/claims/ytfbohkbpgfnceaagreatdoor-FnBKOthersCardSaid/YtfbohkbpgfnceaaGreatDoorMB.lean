/- Columns of numbers, read: PutUint32, Uint16, Uint32, Uint64 anywhere in a row; ReadRaw. -/
import Derived.Test.YtfbohkbpgfnceaaGreatDoorMA
namespace Go.Proofs.YtfbohkbpgfnceaaGreatDoor
set_option linter.unusedVariables false
set_option linter.unusedSimpArgs false
open Go Go.RowKit
set_option maxRecDepth 100000 in
set_option maxHeartbeats 1000000 in
theorem PutUint32 (g off n cp N C : Nat) (xs : List Value) (v : Int) (w : World) (h : Row w 5 1 (some ⟨g, 0, none⟩) N C xs) (ho : off + 4 ≤ N) (hn : 4 ≤ n) :
    Calls Tryz.prog 110 #[.agg #[], .slice (some ⟨g, off, none⟩) n cp, .int .u32 v] w fun e w' => e = .returned (.tuple #[]) ∧ Row w' 5 1 (some ⟨g, 0, none⟩) N C (putAt xs off (leV 4 v)) ∧ Upd [g] w w' := by
  have hl := h.len
  have hnn : ((4 : Nat) : Int) ≤ n := by omega
  have c0 : ∀ j, j < 4 → ∃ u, w.cell? ⟨g, off + j, none⟩ = some u := fun j hj => by obtain ⟨u, _, hu⟩ := h.cell' (off + j) (by omega); exact ⟨u, hu⟩
  obtain ⟨u0, k0⟩ := c0 0 (by omega)
  rw [Nat.add_zero] at k0
  obtain ⟨u1, k1⟩ := c0 1 (by omega)
  have f1 := h.free (off + 1)
  obtain ⟨u2, k2⟩ := c0 2 (by omega)
  have f2 := h.free (off + 2)
  obtain ⟨u3, k3⟩ := c0 3 (by omega)
  have f3 := h.free (off + 3)
  have f0 := h.free off
  have hgs : g < w.heap.size := h.lt g (by simp)
  clear c0
  go_enter Tryz.func110, Tryz.ntmps110
  go_wp2
  go_end0
  have hs := sets_putAt [.int .u8 (v % 256), .int .u8 (v / 256 % 256), .int .u8 (v / 65536 % 256), .int .u8 (v / 16777216 % 256)] xs off 0 (by simp; omega)
  simp only [List.zipIdx_cons, List.zipIdx_nil, List.foldl_cons, List.foldl_nil, Nat.add_zero, Nat.zero_add, Nat.reduceAdd] at hs
  have hb : leV 4 v = [.int .u8 (v % 256), .int .u8 (v / 256 % 256), .int .u8 (v / 65536 % 256), .int .u8 (v / 16777216 % 256)] := by simp [leV, byteAt, List.range_succ]
  refine ⟨rfl, ?_, ?_⟩
  · rw [hb, ← hs]
    exact ((((h.stored1 off _).stored1 (off + 1) _).stored1 (off + 2) _).stored1 (off + 3) _).alloc _
  · repeat (with_reducible first | exact Upd.refl _ _ | refine Upd.alloc ?_ _ | refine Upd.setCell ?_ _ (by simp) | refine Upd.drew ?_)
theorem leV_cell {w : World} {g o B : Nat} {x : Int} (h : w.rangeAt g o (leV B x)) (j : Nat) (hj : j < B) : w.cell? ⟨g, o + j, none⟩ = some (.int .u8 (byteAt x j)) :=
  h j _ (by simp [leV, hj])
set_option maxRecDepth 100000 in
set_option maxHeartbeats 1000000 in
theorem Uint16at (g o c : Nat) (x : Int) (w : World) (h : w.rangeAt g o (leV 2 x)) (hlt : g < w.heap.size) :
    Calls Tryz.prog 217 #[.agg #[], .slice (some ⟨g, o, none⟩) 2 c] w fun e w' => e = .returned (.int .u16 (x % 65536)) ∧ Upd [] w w' := by
  have u1 := (Upd.refl [] w).alloc (Obj.cells #[] 354)
  have k0 := leV_cell h 0 (by omega)
  have k1 := leV_cell h 1 (by omega)
  rw [Nat.add_zero] at k0
  obtain ⟨x0, h0⟩ : ∃ y, y = byteAt x 0 := ⟨_, rfl⟩
  obtain ⟨x1, h1⟩ : ∃ y, y = byteAt x 1 := ⟨_, rfl⟩
  have b0 : 0 ≤ x0 ∧ x0 < 256 := by rw [h0]; exact byteAt_range _ _
  have b1 : 0 ≤ x1 ∧ x1 < 256 := by rw [h1]; exact byteAt_range _ _
  have hx : x % 65536 = x0 + x1 * 256 := by rw [h0, h1]; simp only [byteAt]; omega
  rw [← h0] at k0
  rw [← h1] at k1
  rw [hx]
  clear h0 h1 hx h
  have q0 := u1.cell1 k0 (by simp)
  have q1 := u1.cell1 k1 (by simp)
  go_enter Tryz.func217, Tryz.ntmps217
  go_wp2
  generalize w.alloc (Obj.cells #[] 354) = W at *
  refine wp_region_split (S := Upd [] W) [(true, 0), (true, 1), (true, 2), (true, 3), (true, 4), (true, 5), (true, 6), (true, 7), (true, 8), (true, 9)] [] [10] (by kernel_rfl) (by kernel_rfl) (fun _ _ d _ _ h => by cases d <;> exact h) ((Upd.refl _ _).drew) ?_
  simp only [readsAt, opersAt, Option.map_some, List.filterMap_cons, List.filterMap_nil, List.getElem?_toArray, List.getElem?_cons_succ, List.getElem?_cons_zero]
  iterate 10 (refine ⟨_, Or.inl ⟨by rfl, fun w' hS => by first | (have e0 := Upd.cell1 hS q0 (by simp); have e1 := Upd.cell1 hS q1 (by simp); first | (go_simp; done) | (go_simp; with_reducible rfl)) | (go_simp; done) | (go_simp; with_reducible rfl)⟩, ?_⟩; simp only [Act.put, List.setIfInBounds_toArray, List.set_cons_zero, List.set_cons_succ])
  simp only [readsThen, preThen]
  change wpList _ _ _ [_] _ _
  go_wp2
  go_ret
  refine ⟨?_, u1.drew⟩
  have e0 : IntKind.u16.wrap x0 = x0 := by rw [IntKind.wrap_u16]; omega
  have e1 : IntKind.u16.wrap (IntKind.u16.wrap x1 * 256) = x1 * 256 := by rw [IntKind.wrap_u16, IntKind.wrap_u16]; omega
  show Ending.returned (Value.int IntKind.u16 (bits BinOp.or IntKind.u16 (IntKind.u16.wrap x0) (IntKind.u16.wrap (IntKind.u16.wrap x1 * 256)))) = _
  rw [e0, e1]
  simp (disch := omega) only [u16_or8]
set_option maxRecDepth 100000 in
set_option maxHeartbeats 1000000 in
theorem Uint32at (g o c : Nat) (x : Int) (w : World) (h : w.rangeAt g o (leV 4 x)) (hlt : g < w.heap.size) :
    Calls Tryz.prog 113 #[.agg #[], .slice (some ⟨g, o, none⟩) 4 c] w fun e w' => e = .returned (.int .u32 (x % 4294967296)) ∧ Upd [] w w' := by
  have u1 := (Upd.refl [] w).alloc (Obj.cells #[] 354)
  have k0 := leV_cell h 0 (by omega)
  have k1 := leV_cell h 1 (by omega)
  have k2 := leV_cell h 2 (by omega)
  have k3 := leV_cell h 3 (by omega)
  rw [Nat.add_zero] at k0
  obtain ⟨x0, h0⟩ : ∃ y, y = byteAt x 0 := ⟨_, rfl⟩
  obtain ⟨x1, h1⟩ : ∃ y, y = byteAt x 1 := ⟨_, rfl⟩
  obtain ⟨x2, h2⟩ : ∃ y, y = byteAt x 2 := ⟨_, rfl⟩
  obtain ⟨x3, h3⟩ : ∃ y, y = byteAt x 3 := ⟨_, rfl⟩
  have b0 : 0 ≤ x0 ∧ x0 < 256 := by rw [h0]; exact byteAt_range _ _
  have b1 : 0 ≤ x1 ∧ x1 < 256 := by rw [h1]; exact byteAt_range _ _
  have b2 : 0 ≤ x2 ∧ x2 < 256 := by rw [h2]; exact byteAt_range _ _
  have b3 : 0 ≤ x3 ∧ x3 < 256 := by rw [h3]; exact byteAt_range _ _
  have hx : x % 4294967296 = x0 + x1 * 256 + x2 * 65536 + x3 * 16777216 := by rw [h0, h1, h2, h3]; simp only [byteAt]; omega
  rw [← h0] at k0
  rw [← h1] at k1
  rw [← h2] at k2
  rw [← h3] at k3
  rw [hx]
  clear h0 h1 h2 h3 hx h
  have q0 := u1.cell1 k0 (by simp)
  have q1 := u1.cell1 k1 (by simp)
  have q2 := u1.cell1 k2 (by simp)
  have q3 := u1.cell1 k3 (by simp)
  go_enter Tryz.func113, Tryz.ntmps113
  go_wp2
  generalize w.alloc (Obj.cells #[] 354) = W at *
  refine wp_region_split (S := Upd [] W) [(true, 0), (true, 1), (true, 2), (true, 3), (true, 4), (true, 5), (true, 6), (true, 7), (true, 8), (true, 9), (true, 10), (true, 11), (true, 12), (true, 13), (true, 14), (true, 15), (true, 16), (true, 17), (true, 18), (true, 19), (true, 20), (true, 21)] [] [22] (by kernel_rfl) (by kernel_rfl) (fun _ _ d _ _ h => by cases d <;> exact h) ((Upd.refl _ _).drew) ?_
  simp only [readsAt, opersAt, Option.map_some, List.filterMap_cons, List.filterMap_nil, List.getElem?_toArray, List.getElem?_cons_succ, List.getElem?_cons_zero]
  iterate 22 (refine ⟨_, Or.inl ⟨by rfl, fun w' hS => by first | (have e0 := Upd.cell1 hS q0 (by simp); have e1 := Upd.cell1 hS q1 (by simp); have e2 := Upd.cell1 hS q2 (by simp); have e3 := Upd.cell1 hS q3 (by simp); first | (go_simp; done) | (go_simp; with_reducible rfl)) | (go_simp; done) | (go_simp; with_reducible rfl)⟩, ?_⟩; simp only [Act.put, List.setIfInBounds_toArray, List.set_cons_zero, List.set_cons_succ])
  simp only [readsThen, preThen]
  change wpList _ _ _ [_] _ _
  go_wp2
  go_ret
  refine ⟨?_, u1.drew⟩
  have e0 : IntKind.u32.wrap x0 = x0 := by rw [IntKind.wrap_u32]; omega
  have e1 : IntKind.u32.wrap (IntKind.u32.wrap x1 * 256) = x1 * 256 := by rw [IntKind.wrap_u32, IntKind.wrap_u32]; omega
  have e2 : IntKind.u32.wrap (IntKind.u32.wrap x2 * 65536) = x2 * 65536 := by rw [IntKind.wrap_u32, IntKind.wrap_u32]; omega
  have e3 : IntKind.u32.wrap (IntKind.u32.wrap x3 * 16777216) = x3 * 16777216 := by rw [IntKind.wrap_u32, IntKind.wrap_u32]; omega
  show Ending.returned (Value.int IntKind.u32 (bits BinOp.or IntKind.u32 (bits BinOp.or IntKind.u32 (bits BinOp.or IntKind.u32 (IntKind.u32.wrap x0) (IntKind.u32.wrap (IntKind.u32.wrap x1 * 256))) (IntKind.u32.wrap (IntKind.u32.wrap x2 * 65536))) (IntKind.u32.wrap (IntKind.u32.wrap x3 * 16777216)))) = _
  rw [e0, e1, e2, e3]
  simp (disch := omega) only [u32_or8, u32_or16, u32_or24]
set_option maxRecDepth 100000 in
set_option maxHeartbeats 2000000 in
theorem Uint64at (g o c : Nat) (x : Int) (w : World) (h : w.rangeAt g o (leV 8 x)) (hlt : g < w.heap.size) :
    Calls Tryz.prog 241 #[.agg #[], .slice (some ⟨g, o, none⟩) 8 c] w fun e w' => e = .returned (.int .u64 (x % 18446744073709551616)) ∧ Upd [] w w' := by
  have u1 := (Upd.refl [] w).alloc (Obj.cells #[] 354)
  have k0 := leV_cell h 0 (by omega)
  have k1 := leV_cell h 1 (by omega)
  have k2 := leV_cell h 2 (by omega)
  have k3 := leV_cell h 3 (by omega)
  have k4 := leV_cell h 4 (by omega)
  have k5 := leV_cell h 5 (by omega)
  have k6 := leV_cell h 6 (by omega)
  have k7 := leV_cell h 7 (by omega)
  rw [Nat.add_zero] at k0
  obtain ⟨x0, h0⟩ : ∃ y, y = byteAt x 0 := ⟨_, rfl⟩
  obtain ⟨x1, h1⟩ : ∃ y, y = byteAt x 1 := ⟨_, rfl⟩
  obtain ⟨x2, h2⟩ : ∃ y, y = byteAt x 2 := ⟨_, rfl⟩
  obtain ⟨x3, h3⟩ : ∃ y, y = byteAt x 3 := ⟨_, rfl⟩
  obtain ⟨x4, h4⟩ : ∃ y, y = byteAt x 4 := ⟨_, rfl⟩
  obtain ⟨x5, h5⟩ : ∃ y, y = byteAt x 5 := ⟨_, rfl⟩
  obtain ⟨x6, h6⟩ : ∃ y, y = byteAt x 6 := ⟨_, rfl⟩
  obtain ⟨x7, h7⟩ : ∃ y, y = byteAt x 7 := ⟨_, rfl⟩
  have b0 : 0 ≤ x0 ∧ x0 < 256 := by rw [h0]; exact byteAt_range _ _
  have b1 : 0 ≤ x1 ∧ x1 < 256 := by rw [h1]; exact byteAt_range _ _
  have b2 : 0 ≤ x2 ∧ x2 < 256 := by rw [h2]; exact byteAt_range _ _
  have b3 : 0 ≤ x3 ∧ x3 < 256 := by rw [h3]; exact byteAt_range _ _
  have b4 : 0 ≤ x4 ∧ x4 < 256 := by rw [h4]; exact byteAt_range _ _
  have b5 : 0 ≤ x5 ∧ x5 < 256 := by rw [h5]; exact byteAt_range _ _
  have b6 : 0 ≤ x6 ∧ x6 < 256 := by rw [h6]; exact byteAt_range _ _
  have b7 : 0 ≤ x7 ∧ x7 < 256 := by rw [h7]; exact byteAt_range _ _
  have hx : x % 18446744073709551616 = x0 + x1 * 256 + x2 * 65536 + x3 * 16777216 + x4 * 4294967296 + x5 * 1099511627776 + x6 * 281474976710656 + x7 * 72057594037927936 := by rw [h0, h1, h2, h3, h4, h5, h6, h7]; simp only [byteAt]; omega
  rw [← h0] at k0
  rw [← h1] at k1
  rw [← h2] at k2
  rw [← h3] at k3
  rw [← h4] at k4
  rw [← h5] at k5
  rw [← h6] at k6
  rw [← h7] at k7
  rw [hx]
  clear h0 h1 h2 h3 h4 h5 h6 h7 hx h
  have q0 := u1.cell1 k0 (by simp)
  have q1 := u1.cell1 k1 (by simp)
  have q2 := u1.cell1 k2 (by simp)
  have q3 := u1.cell1 k3 (by simp)
  have q4 := u1.cell1 k4 (by simp)
  have q5 := u1.cell1 k5 (by simp)
  have q6 := u1.cell1 k6 (by simp)
  have q7 := u1.cell1 k7 (by simp)
  go_enter Tryz.func241, Tryz.ntmps241
  go_wp2
  generalize w.alloc (Obj.cells #[] 354) = W at *
  refine wp_region_split (S := Upd [] W) [(true, 0), (true, 1), (true, 2), (true, 3), (true, 4), (true, 5), (true, 6), (true, 7), (true, 8), (true, 9), (true, 10), (true, 11), (true, 12), (true, 13), (true, 14), (true, 15), (true, 16), (true, 17), (true, 18), (true, 19), (true, 20), (true, 21), (true, 22), (true, 23), (true, 24), (true, 25), (true, 26), (true, 27), (true, 28), (true, 29), (true, 30), (true, 31), (true, 32), (true, 33), (true, 34), (true, 35), (true, 36), (true, 37), (true, 38), (true, 39), (true, 40), (true, 41), (true, 42), (true, 43), (true, 44), (true, 45)] [] [46] (by kernel_rfl) (by kernel_rfl) (fun _ _ d _ _ h => by cases d <;> exact h) ((Upd.refl _ _).drew) ?_
  simp only [readsAt, opersAt, Option.map_some, List.filterMap_cons, List.filterMap_nil, List.getElem?_toArray, List.getElem?_cons_succ, List.getElem?_cons_zero]
  iterate 46 (refine ⟨_, Or.inl ⟨by rfl, fun w' hS => by first | (have e0 := Upd.cell1 hS q0 (by simp); have e1 := Upd.cell1 hS q1 (by simp); have e2 := Upd.cell1 hS q2 (by simp); have e3 := Upd.cell1 hS q3 (by simp); have e4 := Upd.cell1 hS q4 (by simp); have e5 := Upd.cell1 hS q5 (by simp); have e6 := Upd.cell1 hS q6 (by simp); have e7 := Upd.cell1 hS q7 (by simp); first | (go_simp; done) | (go_simp; with_reducible rfl)) | (go_simp; done) | (go_simp; with_reducible rfl)⟩, ?_⟩; simp only [Act.put, List.setIfInBounds_toArray, List.set_cons_zero, List.set_cons_succ])
  simp only [readsThen, preThen]
  change wpList _ _ _ [_] _ _
  go_wp2
  go_ret
  refine ⟨?_, u1.drew⟩
  have e0 : IntKind.u64.wrap x0 = x0 := by rw [IntKind.wrap_u64]; omega
  have e1 : IntKind.u64.wrap (IntKind.u64.wrap x1 * 256) = x1 * 256 := by rw [IntKind.wrap_u64, IntKind.wrap_u64]; omega
  have e2 : IntKind.u64.wrap (IntKind.u64.wrap x2 * 65536) = x2 * 65536 := by rw [IntKind.wrap_u64, IntKind.wrap_u64]; omega
  have e3 : IntKind.u64.wrap (IntKind.u64.wrap x3 * 16777216) = x3 * 16777216 := by rw [IntKind.wrap_u64, IntKind.wrap_u64]; omega
  have e4 : IntKind.u64.wrap (IntKind.u64.wrap x4 * 4294967296) = x4 * 4294967296 := by rw [IntKind.wrap_u64, IntKind.wrap_u64]; omega
  have e5 : IntKind.u64.wrap (IntKind.u64.wrap x5 * 1099511627776) = x5 * 1099511627776 := by rw [IntKind.wrap_u64, IntKind.wrap_u64]; omega
  have e6 : IntKind.u64.wrap (IntKind.u64.wrap x6 * 281474976710656) = x6 * 281474976710656 := by rw [IntKind.wrap_u64, IntKind.wrap_u64]; omega
  have e7 : IntKind.u64.wrap (IntKind.u64.wrap x7 * 72057594037927936) = x7 * 72057594037927936 := by rw [IntKind.wrap_u64, IntKind.wrap_u64]; omega
  show Ending.returned (Value.int IntKind.u64 (bits BinOp.or IntKind.u64 (bits BinOp.or IntKind.u64 (bits BinOp.or IntKind.u64 (bits BinOp.or IntKind.u64 (bits BinOp.or IntKind.u64 (bits BinOp.or IntKind.u64 (bits BinOp.or IntKind.u64 (IntKind.u64.wrap x0) (IntKind.u64.wrap (IntKind.u64.wrap x1 * 256))) (IntKind.u64.wrap (IntKind.u64.wrap x2 * 65536))) (IntKind.u64.wrap (IntKind.u64.wrap x3 * 16777216))) (IntKind.u64.wrap (IntKind.u64.wrap x4 * 4294967296))) (IntKind.u64.wrap (IntKind.u64.wrap x5 * 1099511627776))) (IntKind.u64.wrap (IntKind.u64.wrap x6 * 281474976710656))) (IntKind.u64.wrap (IntKind.u64.wrap x7 * 72057594037927936)))) = _
  rw [e0, e1, e2, e3, e4, e5, e6, e7]
  simp (disch := omega) only [u64_or8, u64_or16, u64_or24, u64_or32, u64_or40, u64_or48, u64_or56]
/-- n raw bytes are read -/
def RawGot (w w' : World) (rd bf d : Nat) (ao : Option Addr) (n : Nat) (bs : List Value) (e : Ending) : Prop :=
  ∃ g c, e = .returned (.tuple #[.slice (some ⟨g, 0, none⟩) n c, .nilIface]) ∧ Rdr w' rd bf d (some ⟨g, 0, none⟩) (bs.drop n) ∧ Hold w' bf 46 5 1 (some ⟨g, 0, none⟩) n c (bs.take n) ∧ Upd (rdF rd bf ao) w w' ∧ In (bk ao) w.heap.size (some ⟨g, 0, none⟩)
set_option maxRecDepth 100000 in
set_option maxHeartbeats 1000000 in
theorem ReadRawB (rd bf d n : Nat) (M : Int) (hM : M = n) (ao : Option Addr) (bs : List Value) (w : World) (h : Rdr w rd bf d ao bs) (h0 : 0 < n) (hn : n ≤ 1000) (hL : n ≤ bs.length) :
    Calls Tryz.prog 205 #[.pointer (some ⟨rd, 0, none⟩), .int .i64 M] w fun e w' => RawGot w w' rd bf d ao n bs e := by
  subst hM
  go_enter Tryz.func205, Tryz.ntmps205
  go_wp2_with (go_at_call 112; (refine (readFullB rd bf d n ao _ _ h h0 hn hL).mono ?_); rintro e w1 ⟨rfl, g, c1, hR1, hH1, hu1, hi1⟩; obtain ⟨o1, cc1, hb1, _, _⟩ := hR1.blk; have q1 : w1.cell? ⟨rd, 1, none⟩ = some (.pointer (some ⟨bf, 0, none⟩)) := (by simp [World.cell?, hb1]); have q2 := hH1.cell; clear hb1)
  refine bodyPost_ret (results_tmp2 Tryz.results205 _ _ _) rfl ⟨g, c1, by first | rfl | simp, hR1, hH1, hu1, hi1⟩
end Go.Proofs.YtfbohkbpgfnceaaGreatDoor
/- Columns of numbers of 2, 4, 8 bytes (one cell each): Append, Rows, Type, Reset, Row, EncodeColumn, DecodeColumn. -/
namespace Go.Proofs.YtfbohkbpgfnceaaGreatDoor
set_option linter.unusedVariables false
set_option linter.unusedSimpArgs false
open Go Go.RowKit
theorem flat_get {α : Type} (f : α → List Value) (m : Nat) : ∀ (l : List α) (_ : ∀ a ∈ l, (f a).length = m) (k : Nat) (h : k < l.length) (j : Nat) (_ : j < m), (l.flatMap f)[k * m + j]? = (f l[k])[j]? := by
  intro l
  induction l with
  | nil => intro _ k h; simp at h
  | cons r rs ih =>
    intro hf k h j hj
    have hr := hf r (by simp)
    simp only [List.flatMap_cons]
    cases k with
    | zero => rw [List.getElem?_append_left (by omega)]; simp
    | succ k =>
      rw [List.getElem?_append_right (by rw [Nat.succ_mul]; omega), hr]
      simp only [List.getElem_cons_succ]
      rw [← ih (fun a ha => hf a (by simp [ha])) k (by simpa using h) j hj]
      congr 1
      rw [Nat.succ_mul]
      omega
theorem flat_piece {α : Type} {f : α → List Value} {m : Nat} {w : World} {g : Nat} {l : List α} (h : w.rangeAt g 0 (l.flatMap f)) (hf : ∀ a, (f a).length = m) (k : Nat) (hk : k < l.length) : w.rangeAt g (m * k) (f l[k]) := fun j v hj => by
  have hj' : j < m := by have := (List.getElem?_eq_some_iff.1 hj).1; rw [hf] at this; exact this
  have h1 := flat_get f m l (fun a _ => hf a) k hk j hj'
  have h2 := h (k * m + j) v (h1.trans hj)
  rw [Nat.zero_add, Nat.mul_comm k m] at h2
  exact h2
/-- a column is read -/
def Got (w w' : World) (p : Nat) (T e : TypeId) (size rd bf d : Nat) (ao : Option Addr) (n : Nat) (ys rest : List Value) : Prop :=
  ∃ av c ao', Hold w' p T e size av n c ys ∧ Rdr w' rd bf d ao' rest ∧ Upd (p :: rdF rd bf ao) w w' ∧ In [] w.heap.size av ∧ In (bk ao) w.heap.size ao' ∧ (∀ x, x ∈ bk av → x ∉ rdF rd bf ao')
theorem leV2_wrap (b : Int) : leV 2 (IntKind.u16.wrap b) = leV 2 b := by
  rw [IntKind.wrap_u16]
  simp [leV, byteAt, List.range_succ]
  omega
theorem leV2_wrapM (b : Int) : leV 2 (b % 65536) = leV 2 b := by rw [← IntKind.wrap_u16, leV2_wrap]
theorem leV4_wrap (b : Int) : leV 4 (IntKind.u32.wrap b) = leV 4 b := by
  rw [IntKind.wrap_u32]; exact leV_wrap b
theorem leV8_wrap (b : Int) : leV 8 (IntKind.u64.wrap b) = leV 8 b := by
  rw [IntKind.wrap_u64]
  simp [leV, byteAt, List.range_succ]
  omega
theorem leV8_wrapM (b : Int) : leV 8 (b % 18446744073709551616) = leV 8 b := by rw [← IntKind.wrap_u64, leV8_wrap]
theorem Tryz.info113 : (Tryz.prog.info? 113).map (fun i => (i.zero, i.size, i.bytes)) = some (some (.int .i16 0), 1, 2) := by kernel_rfl
theorem Tryz.info21 : (Tryz.prog.info? 21).map (fun i => (i.zero, i.size, i.bytes)) = some (some (.int .i32 0), 1, 4) := by kernel_rfl
theorem Tryz.info2 : (Tryz.prog.info? 2).map (fun i => (i.zero, i.size, i.bytes)) = some (some (.int .i64 0), 1, 8) := by kernel_rfl
theorem Tryz.info69 : (Tryz.prog.info? 69).map (fun i => (i.zero, i.size, i.bytes)) = some (some (.int .u32 0), 1, 4) := by kernel_rfl
theorem Tryz.info285 : (Tryz.prog.info? 285).map (fun i => (i.zero, i.size, i.bytes)) = some (some (.int .u32 0), 1, 4) := by kernel_rfl
set_option maxRecDepth 100000 in
set_option maxHeartbeats 400000 in
theorem ColInt16_Append (p : Nat) (ao : Option Addr) (n c : Nat) (xs : List Value) (x : Int) (w : World) (h : Hold w p 112 113 1 ao n c xs) (hn : n ≤ 1000000) :
    Calls Tryz.prog 209 #[.pointer (some ⟨p, 0, none⟩), .int .i16 x] w fun e w' => e = .returned (.tuple #[]) ∧ Grew w w' p 112 113 1 ao (n + 1) (xs ++ [.int .i16 x]) := by
  have hc := h.cell
  go_enter Tryz.func209, Tryz.ntmps209
  go_wp2_with (at_builtin; refine wpList_app1 _ rfl _ _ 112 rfl 113 (.int .i16 0) 1 2 Tryz.underlying112 Tryz.info113 rfl (by decide) h.own rfl [.int .i16 x] rfl rfl rfl (by simp [Value.oneCell']) (by decide) (by omega) ?_; intro ao1 c1 w1 hown1 hupd1 hin1; have hc1 := h.cell1 hupd1; have hf1 := h.free1 hupd1)
  go_end0
  exact ⟨rfl, _, _, h.after hown1 hupd1 hin1, h.upd hupd1 _, hin1⟩
set_option maxRecDepth 100000 in
set_option maxHeartbeats 400000 in
theorem ColInt32_Append (p : Nat) (ao : Option Addr) (n c : Nat) (xs : List Value) (x : Int) (w : World) (h : Hold w p 122 21 1 ao n c xs) (hn : n ≤ 1000000) :
    Calls Tryz.prog 222 #[.pointer (some ⟨p, 0, none⟩), .int .i32 x] w fun e w' => e = .returned (.tuple #[]) ∧ Grew w w' p 122 21 1 ao (n + 1) (xs ++ [.int .i32 x]) := by
  have hc := h.cell
  go_enter Tryz.func222, Tryz.ntmps222
  go_wp2_with (at_builtin; refine wpList_app1 _ rfl _ _ 122 rfl 21 (.int .i32 0) 1 4 Tryz.underlying122 Tryz.info21 rfl (by decide) h.own rfl [.int .i32 x] rfl rfl rfl (by simp [Value.oneCell']) (by decide) (by omega) ?_; intro ao1 c1 w1 hown1 hupd1 hin1; have hc1 := h.cell1 hupd1; have hf1 := h.free1 hupd1)
  go_end0
  exact ⟨rfl, _, _, h.after hown1 hupd1 hin1, h.upd hupd1 _, hin1⟩
set_option maxRecDepth 100000 in
set_option maxHeartbeats 400000 in
theorem ColInt64_Append (p : Nat) (ao : Option Addr) (n c : Nat) (xs : List Value) (x : Int) (w : World) (h : Hold w p 131 2 1 ao n c xs) (hn : n ≤ 1000000) :
    Calls Tryz.prog 233 #[.pointer (some ⟨p, 0, none⟩), .int .i64 x] w fun e w' => e = .returned (.tuple #[]) ∧ Grew w w' p 131 2 1 ao (n + 1) (xs ++ [.int .i64 x]) := by
  have hc := h.cell
  go_enter Tryz.func233, Tryz.ntmps233
  go_wp2_with (at_builtin; refine wpList_app1 _ rfl _ _ 131 rfl 2 (.int .i64 0) 1 8 Tryz.underlying131 Tryz.info2 rfl (by decide) h.own rfl [.int .i64 x] rfl rfl rfl (by simp [Value.oneCell']) (by decide) (by omega) ?_; intro ao1 c1 w1 hown1 hupd1 hin1; have hc1 := h.cell1 hupd1; have hf1 := h.free1 hupd1)
  go_end0
  exact ⟨rfl, _, _, h.after hown1 hupd1 hin1, h.upd hupd1 _, hin1⟩
set_option maxRecDepth 100000 in
set_option maxHeartbeats 400000 in
theorem ColUInt32_Append (p : Nat) (ao : Option Addr) (n c : Nat) (xs : List Value) (x : Int) (w : World) (h : Hold w p 182 69 1 ao n c xs) (hn : n ≤ 1000000) :
    Calls Tryz.prog 296 #[.pointer (some ⟨p, 0, none⟩), .int .u32 x] w fun e w' => e = .returned (.tuple #[]) ∧ Grew w w' p 182 69 1 ao (n + 1) (xs ++ [.int .u32 x]) := by
  have hc := h.cell
  go_enter Tryz.func296, Tryz.ntmps296
  go_wp2_with (at_builtin; refine wpList_app1 _ rfl _ _ 182 rfl 69 (.int .u32 0) 1 4 Tryz.underlying182 Tryz.info69 rfl (by decide) h.own rfl [.int .u32 x] rfl rfl rfl (by simp [Value.oneCell']) (by decide) (by omega) ?_; intro ao1 c1 w1 hown1 hupd1 hin1; have hc1 := h.cell1 hupd1; have hf1 := h.free1 hupd1)
  go_end0
  exact ⟨rfl, _, _, h.after hown1 hupd1 hin1, h.upd hupd1 _, hin1⟩
set_option maxRecDepth 100000 in
set_option maxHeartbeats 400000 in
theorem ColIPv4_Append (p : Nat) (ao : Option Addr) (n c : Nat) (xs : List Value) (x : Int) (w : World) (h : Hold w p 284 285 1 ao n c xs) (hn : n ≤ 1000000) :
    Calls Tryz.prog 386 #[.pointer (some ⟨p, 0, none⟩), .int .u32 x] w fun e w' => e = .returned (.tuple #[]) ∧ Grew w w' p 284 285 1 ao (n + 1) (xs ++ [.int .u32 x]) := by
  have hc := h.cell
  go_enter Tryz.func386, Tryz.ntmps386
  go_wp2_with (at_builtin; refine wpList_app1 _ rfl _ _ 284 rfl 285 (.int .u32 0) 1 4 Tryz.underlying284 Tryz.info285 rfl (by decide) h.own rfl [.int .u32 x] rfl rfl rfl (by simp [Value.oneCell']) (by decide) (by omega) ?_; intro ao1 c1 w1 hown1 hupd1 hin1; have hc1 := h.cell1 hupd1; have hf1 := h.free1 hupd1)
  go_end0
  exact ⟨rfl, _, _, h.after hown1 hupd1 hin1, h.upd hupd1 _, hin1⟩
set_option maxRecDepth 100000 in
set_option maxHeartbeats 1000000 in
theorem ColInt16_EncodeColumn (ac : Option Addr) (n cc : Nat) (vs : List Int) (bp : Nat) (ao : Option Addr) (m cp : Nat) (bs : List Value) (w : World) (hc : View w 1 ac n (vs.map (Value.int .i16))) (hb : Hold w bp 46 5 1 ao m cp bs)
    (hap : Apart ac bp ao) (hac : ∀ x, x ∈ bk ac → x < w.heap.size) (hn : n ≤ 1000000) (hm : m ≤ 100000000) :
    Calls Tryz.prog 211 #[.slice ac n cc, .pointer (some ⟨bp, 0, none⟩)] w fun e w' => e = .returned (.tuple #[]) ∧ Grew w w' bp 46 5 1 ao (m + n * 2) (bs ++ vs.flatMap (leV 2)) := by
  have hvl : vs.length = n := by have := hc.len; simpa using this
  have hbl := hb.own.len
  by_cases h0 : n = 0
  · subst h0
    have hv0 : vs = [] := List.eq_nil_of_length_eq_zero hvl
    subst hv0
    go_enter Tryz.func211, Tryz.ntmps211
    go_wp2
    refine bodyPost_ret (results_none rfl _ _ _) rfl ?_
    exact ⟨rfl, ao, cp, by simpa using hb, Upd.refl _ _, In.self (fun _ h => h)⟩
  · have h1 : ((n : Int) == 0) = false := beq_eq_false_iff_ne.2 (by omega)
    have hc0 := hb.cell
    go_enter Tryz.func211, Tryz.ntmps211
    go_wp2_with (at_builtin; refine wpList_zeros _ rfl _ _ 26 3 rfl 5 (.int .u8 0) 1 1 .i64 Tryz.underlying26 Tryz.underlying3 Tryz.info5 rfl (by decide) (by simp [Value.cells, Value.oneCell']) hb.own rfl (2 * n) (by omega) rfl (by omega) (by decide) (by omega) ?_; intro ao1 c1 w1 hown1 hupd1 hin1; have hc1 := hb.cell1 hupd1; have hf1 := hb.free1 hupd1)
    have hH1 := hb.after hown1 hupd1 hin1
    have hU1 := hb.upd hupd1 (.slice ao1 (m + 2 * n) c1)
    clear hown1 hupd1 hc1 hf1
    generalize w1.setCell ⟨bp, 0, none⟩ (.slice ao1 (m + 2 * n) c1) = w2 at *
    obtain ⟨g, rfl⟩ := hH1.own.head (by omega)
    go_loopw [5, 30] (fun off i wr => ∃ k : Nat, k ≤ n ∧ i = .int .i64 k ∧ off = .int .i64 (m + 2 * k : Nat) ∧ Hold wr bp 46 5 1 (some ⟨g, 0, none⟩) (m + 2 * n) c1 (bs ++ (vs.take k).flatMap (leV 2) ++ List.replicate (2 * (n - k)) (.int .u8 0)) ∧ Upd (bp :: bk ao) w wr)
      (fun _ i _ => n - (intOf i).toNat)
    case atStart => exact ⟨0, Nat.zero_le _, rfl, rfl, by rw [show (Value.int .u8 0).cells = #[Value.int .u8 0] from rfl, zeroCells1] at hH1; simpa using hH1, hU1⟩
    case round =>
      obtain ⟨k, hk, rfl, rfl, hH, hU⟩ := hrel
      by_cases hlt : k < n
      · have hk0 : ((k : Int) < n) := by omega
        obtain ⟨b, o, rfl, hr, hbb⟩ := hc.at_ (by omega)
        have hbn : b ∉ bp :: bk ao := hap.not b (by simp)
        have hcell : wr.cell? ⟨b, o + k, none⟩ = some (.int .i16 (vs[k]'(by omega))) := (hU.cell hbb hbn).trans (hr k _ (by simp [hvl, hlt]))
        have hcb := hH.cell
        have hcap : m + 2 * k + 2 ≤ c1 := by have := hH.own.cap; omega
        obtain ⟨x, hx⟩ : ∃ x, x = vs[k]'(by omega) := ⟨_, rfl⟩
        rw [← hx] at hcell
        have HX := Lib.hid hx
        clear hx
        go_wp2
        have hwr : IntKind.i64.wrap ((m : Int) + 2 * k + 2) = m + 2 * k + 2 := IntWalk.i64_in _ (by omega)
        refine wp_region_split (S := Upd [] wr) [(true, 0), (true, 1), (true, 2), (true, 3), (true, 4), (true, 5), (true, 6), (true, 7), (true, 8), (true, 9), (true, 10)] [] [11] (by kernel_rfl) (by kernel_rfl) (fun _ _ d _ _ h => by cases d <;> exact h) ((Upd.refl _ _).drew) ?_
        simp only [readsAt, opersAt, Option.map_some, List.filterMap_cons, List.filterMap_nil, List.getElem?_toArray, List.getElem?_cons_succ, List.getElem?_cons_zero]
        iterate 8 (refine ⟨_, Or.inl ⟨by rfl, fun w' hS => by first | (have q1 := Upd.cell1 hS hcb (by simp); first | (go_simp; done) | (go_simp; with_reducible rfl)) | (go_simp; done) | (go_simp; with_reducible rfl)⟩, ?_⟩; simp only [Act.put, List.setIfInBounds_toArray, List.set_cons_zero, List.set_cons_succ])
        refine ⟨_, yields_slice rfl 26 5 1 _ _ _ rfl Tryz.underlying26 (by kernel_rfl) g 0 _ _ rfl _ _ (m + 2 * k) (m + 2 * k + 2) rfl rfl (by omega) (by omega) (by omega) hcap (by omega) (m + 2 * k) 2 (c1 - (m + 2 * k)) (by omega) (by omega) rfl, ?_⟩
        simp only [Act.put, List.setIfInBounds_toArray, List.set_cons_zero, List.set_cons_succ]
        iterate 2 (refine ⟨_, Or.inl ⟨by rfl, fun w' hS => by first | (go_simp; done) | (go_simp; with_reducible rfl)⟩, ?_⟩; simp only [Act.put, List.setIfInBounds_toArray, List.set_cons_zero, List.set_cons_succ])
        simp only [readsThen, preThen]
        change wpList _ _ _ [_] _ _
        clear hwr
        go_wp2_with (go_at_call 218; (with_reducible refine (PutUint16 g (m + 2 * k) 2 _ (m + 2 * n) c1 _ _ _ (World.ownsRow.drew hH.own) ?_ (by omega)).mono ?_); (· have := Nat.mul_le_mul_left 2 (show k + 1 ≤ n by omega); omega); rintro e wx ⟨rfl, hrow, hux⟩; (first | rw [leV2_wrap] at hrow | rw [leV2_wrapM] at hrow))
        have hstep : putAt (bs ++ (vs.take k).flatMap (leV 2) ++ List.replicate (2 * (n - k)) (.int .u8 0)) (m + 2 * k) (leV 2 x) = bs ++ (vs.take (k + 1)).flatMap (leV 2) ++ List.replicate (2 * (n - (k + 1))) (.int .u8 0) := by
          rw [flatMap_take_succ _ _ _ (by omega), ← HX.out]
          refine enc_step (r := 2 * (n - (k + 1))) (m := 2) ?_ (leV_len _ _) ?_
          · congr 1; have : n - k = (n - (k + 1)) + 1 := by omega
            rw [this]; omega
          · rw [List.length_append, flatMap_len _ 2 (leV_len 2), List.length_take]; omega
        rw [hstep] at hrow
        have hux' : Upd [g] wr wx := hux.ofDrew
        have hH' : Hold wx bp 46 5 1 (some ⟨g, 0, none⟩) (m + 2 * n) c1 (bs ++ (vs.take (k + 1)).flatMap (leV 2) ++ List.replicate (2 * (n - (k + 1))) (.int .u8 0)) := ⟨hux'.at hH.blk (fun h => hH.ne (by simpa using h)), hrow, hH.ne⟩
        have hU' : Upd (bp :: bk ao) w wx := hU.trans hux' (fun y hy => by
          simp at hy; subst hy
          rcases hin1 y (by simp) with h | h
          · exact .inl (List.mem_cons_of_mem _ h)
          · exact .inr h)
        clear hstep hrow hux hux' hH hU
        go_roundw
        case rel => exact ⟨k + 1, by omega, by go_num, by simp; omega, hH', hU'⟩
        case measure => simp [intOf]; omega
      · have hk0 : n ≤ k := by omega
        obtain rfl : k = n := by omega
        go_wp2
        go_end0
        refine ⟨rfl, some ⟨g, 0, none⟩, c1, ?_, hU, hin1⟩
        rw [List.take_of_length_le (by omega), Nat.sub_self, Nat.mul_zero, List.replicate_zero, List.append_nil] at hH
        rw [Nat.mul_comm k 2]
        exact hH
set_option maxRecDepth 100000 in
set_option maxHeartbeats 1000000 in
theorem ColInt32_EncodeColumn (ac : Option Addr) (n cc : Nat) (vs : List Int) (bp : Nat) (ao : Option Addr) (m cp : Nat) (bs : List Value) (w : World) (hc : View w 1 ac n (vs.map (Value.int .i32))) (hb : Hold w bp 46 5 1 ao m cp bs)
    (hap : Apart ac bp ao) (hac : ∀ x, x ∈ bk ac → x < w.heap.size) (hn : n ≤ 1000000) (hm : m ≤ 100000000) :
    Calls Tryz.prog 224 #[.slice ac n cc, .pointer (some ⟨bp, 0, none⟩)] w fun e w' => e = .returned (.tuple #[]) ∧ Grew w w' bp 46 5 1 ao (m + n * 4) (bs ++ vs.flatMap (leV 4)) := by
  have hvl : vs.length = n := by have := hc.len; simpa using this
  have hbl := hb.own.len
  by_cases h0 : n = 0
  · subst h0
    have hv0 : vs = [] := List.eq_nil_of_length_eq_zero hvl
    subst hv0
    go_enter Tryz.func224, Tryz.ntmps224
    go_wp2
    refine bodyPost_ret (results_none rfl _ _ _) rfl ?_
    exact ⟨rfl, ao, cp, by simpa using hb, Upd.refl _ _, In.self (fun _ h => h)⟩
  · have h1 : ((n : Int) == 0) = false := beq_eq_false_iff_ne.2 (by omega)
    have hc0 := hb.cell
    go_enter Tryz.func224, Tryz.ntmps224
    go_wp2_with (at_builtin; refine wpList_zeros _ rfl _ _ 26 3 rfl 5 (.int .u8 0) 1 1 .i64 Tryz.underlying26 Tryz.underlying3 Tryz.info5 rfl (by decide) (by simp [Value.cells, Value.oneCell']) hb.own rfl (4 * n) (by omega) rfl (by omega) (by decide) (by omega) ?_; intro ao1 c1 w1 hown1 hupd1 hin1; have hc1 := hb.cell1 hupd1; have hf1 := hb.free1 hupd1)
    have hH1 := hb.after hown1 hupd1 hin1
    have hU1 := hb.upd hupd1 (.slice ao1 (m + 4 * n) c1)
    clear hown1 hupd1 hc1 hf1
    generalize w1.setCell ⟨bp, 0, none⟩ (.slice ao1 (m + 4 * n) c1) = w2 at *
    obtain ⟨g, rfl⟩ := hH1.own.head (by omega)
    go_loopw [5, 30] (fun off i wr => ∃ k : Nat, k ≤ n ∧ i = .int .i64 k ∧ off = .int .i64 (m + 4 * k : Nat) ∧ Hold wr bp 46 5 1 (some ⟨g, 0, none⟩) (m + 4 * n) c1 (bs ++ (vs.take k).flatMap (leV 4) ++ List.replicate (4 * (n - k)) (.int .u8 0)) ∧ Upd (bp :: bk ao) w wr)
      (fun _ i _ => n - (intOf i).toNat)
    case atStart => exact ⟨0, Nat.zero_le _, rfl, rfl, by rw [show (Value.int .u8 0).cells = #[Value.int .u8 0] from rfl, zeroCells1] at hH1; simpa using hH1, hU1⟩
    case round =>
      obtain ⟨k, hk, rfl, rfl, hH, hU⟩ := hrel
      by_cases hlt : k < n
      · have hk0 : ((k : Int) < n) := by omega
        obtain ⟨b, o, rfl, hr, hbb⟩ := hc.at_ (by omega)
        have hbn : b ∉ bp :: bk ao := hap.not b (by simp)
        have hcell : wr.cell? ⟨b, o + k, none⟩ = some (.int .i32 (vs[k]'(by omega))) := (hU.cell hbb hbn).trans (hr k _ (by simp [hvl, hlt]))
        have hcb := hH.cell
        have hcap : m + 4 * k + 4 ≤ c1 := by have := hH.own.cap; omega
        obtain ⟨x, hx⟩ : ∃ x, x = vs[k]'(by omega) := ⟨_, rfl⟩
        rw [← hx] at hcell
        have HX := Lib.hid hx
        clear hx
        go_wp2
        have hwr : IntKind.i64.wrap ((m : Int) + 4 * k + 4) = m + 4 * k + 4 := IntWalk.i64_in _ (by omega)
        refine wp_region_split (S := Upd [] wr) [(true, 0), (true, 1), (true, 2), (true, 3), (true, 4), (true, 5), (true, 6), (true, 7), (true, 8), (true, 9), (true, 10)] [] [11] (by kernel_rfl) (by kernel_rfl) (fun _ _ d _ _ h => by cases d <;> exact h) ((Upd.refl _ _).drew) ?_
        simp only [readsAt, opersAt, Option.map_some, List.filterMap_cons, List.filterMap_nil, List.getElem?_toArray, List.getElem?_cons_succ, List.getElem?_cons_zero]
        iterate 8 (refine ⟨_, Or.inl ⟨by rfl, fun w' hS => by first | (have q1 := Upd.cell1 hS hcb (by simp); first | (go_simp; done) | (go_simp; with_reducible rfl)) | (go_simp; done) | (go_simp; with_reducible rfl)⟩, ?_⟩; simp only [Act.put, List.setIfInBounds_toArray, List.set_cons_zero, List.set_cons_succ])
        refine ⟨_, yields_slice rfl 26 5 1 _ _ _ rfl Tryz.underlying26 (by kernel_rfl) g 0 _ _ rfl _ _ (m + 4 * k) (m + 4 * k + 4) rfl rfl (by omega) (by omega) (by omega) hcap (by omega) (m + 4 * k) 4 (c1 - (m + 4 * k)) (by omega) (by omega) rfl, ?_⟩
        simp only [Act.put, List.setIfInBounds_toArray, List.set_cons_zero, List.set_cons_succ]
        iterate 2 (refine ⟨_, Or.inl ⟨by rfl, fun w' hS => by first | (go_simp; done) | (go_simp; with_reducible rfl)⟩, ?_⟩; simp only [Act.put, List.setIfInBounds_toArray, List.set_cons_zero, List.set_cons_succ])
        simp only [readsThen, preThen]
        change wpList _ _ _ [_] _ _
        clear hwr
        go_wp2_with (go_at_call 110; (with_reducible refine (PutUint32 g (m + 4 * k) 4 _ (m + 4 * n) c1 _ _ _ (World.ownsRow.drew hH.own) ?_ (by omega)).mono ?_); (· have := Nat.mul_le_mul_left 4 (show k + 1 ≤ n by omega); omega); rintro e wx ⟨rfl, hrow, hux⟩; (first | rw [leV4_wrap] at hrow | rw [leV_wrap] at hrow))
        have hstep : putAt (bs ++ (vs.take k).flatMap (leV 4) ++ List.replicate (4 * (n - k)) (.int .u8 0)) (m + 4 * k) (leV 4 x) = bs ++ (vs.take (k + 1)).flatMap (leV 4) ++ List.replicate (4 * (n - (k + 1))) (.int .u8 0) := by
          rw [flatMap_take_succ _ _ _ (by omega), ← HX.out]
          refine enc_step (r := 4 * (n - (k + 1))) (m := 4) ?_ (leV_len _ _) ?_
          · congr 1; have : n - k = (n - (k + 1)) + 1 := by omega
            rw [this]; omega
          · rw [List.length_append, flatMap_len _ 4 (leV_len 4), List.length_take]; omega
        rw [hstep] at hrow
        have hux' : Upd [g] wr wx := hux.ofDrew
        have hH' : Hold wx bp 46 5 1 (some ⟨g, 0, none⟩) (m + 4 * n) c1 (bs ++ (vs.take (k + 1)).flatMap (leV 4) ++ List.replicate (4 * (n - (k + 1))) (.int .u8 0)) := ⟨hux'.at hH.blk (fun h => hH.ne (by simpa using h)), hrow, hH.ne⟩
        have hU' : Upd (bp :: bk ao) w wx := hU.trans hux' (fun y hy => by
          simp at hy; subst hy
          rcases hin1 y (by simp) with h | h
          · exact .inl (List.mem_cons_of_mem _ h)
          · exact .inr h)
        clear hstep hrow hux hux' hH hU
        go_roundw
        case rel => exact ⟨k + 1, by omega, by go_num, by simp; omega, hH', hU'⟩
        case measure => simp [intOf]; omega
      · have hk0 : n ≤ k := by omega
        obtain rfl : k = n := by omega
        go_wp2
        go_end0
        refine ⟨rfl, some ⟨g, 0, none⟩, c1, ?_, hU, hin1⟩
        rw [List.take_of_length_le (by omega), Nat.sub_self, Nat.mul_zero, List.replicate_zero, List.append_nil] at hH
        rw [Nat.mul_comm k 4]
        exact hH
set_option maxRecDepth 100000 in
set_option maxHeartbeats 1000000 in
theorem ColInt64_EncodeColumn (ac : Option Addr) (n cc : Nat) (vs : List Int) (bp : Nat) (ao : Option Addr) (m cp : Nat) (bs : List Value) (w : World) (hc : View w 1 ac n (vs.map (Value.int .i64))) (hb : Hold w bp 46 5 1 ao m cp bs)
    (hap : Apart ac bp ao) (hac : ∀ x, x ∈ bk ac → x < w.heap.size) (hn : n ≤ 1000000) (hm : m ≤ 100000000) :
    Calls Tryz.prog 235 #[.slice ac n cc, .pointer (some ⟨bp, 0, none⟩)] w fun e w' => e = .returned (.tuple #[]) ∧ Grew w w' bp 46 5 1 ao (m + n * 8) (bs ++ vs.flatMap (leV 8)) := by
  have hvl : vs.length = n := by have := hc.len; simpa using this
  have hbl := hb.own.len
  by_cases h0 : n = 0
  · subst h0
    have hv0 : vs = [] := List.eq_nil_of_length_eq_zero hvl
    subst hv0
    go_enter Tryz.func235, Tryz.ntmps235
    go_wp2
    refine bodyPost_ret (results_none rfl _ _ _) rfl ?_
    exact ⟨rfl, ao, cp, by simpa using hb, Upd.refl _ _, In.self (fun _ h => h)⟩
  · have h1 : ((n : Int) == 0) = false := beq_eq_false_iff_ne.2 (by omega)
    have hc0 := hb.cell
    go_enter Tryz.func235, Tryz.ntmps235
    go_wp2_with (at_builtin; refine wpList_zeros _ rfl _ _ 26 3 rfl 5 (.int .u8 0) 1 1 .i64 Tryz.underlying26 Tryz.underlying3 Tryz.info5 rfl (by decide) (by simp [Value.cells, Value.oneCell']) hb.own rfl (8 * n) (by omega) rfl (by omega) (by decide) (by omega) ?_; intro ao1 c1 w1 hown1 hupd1 hin1; have hc1 := hb.cell1 hupd1; have hf1 := hb.free1 hupd1)
    have hH1 := hb.after hown1 hupd1 hin1
    have hU1 := hb.upd hupd1 (.slice ao1 (m + 8 * n) c1)
    clear hown1 hupd1 hc1 hf1
    generalize w1.setCell ⟨bp, 0, none⟩ (.slice ao1 (m + 8 * n) c1) = w2 at *
    obtain ⟨g, rfl⟩ := hH1.own.head (by omega)
    go_loopw [5, 30] (fun off i wr => ∃ k : Nat, k ≤ n ∧ i = .int .i64 k ∧ off = .int .i64 (m + 8 * k : Nat) ∧ Hold wr bp 46 5 1 (some ⟨g, 0, none⟩) (m + 8 * n) c1 (bs ++ (vs.take k).flatMap (leV 8) ++ List.replicate (8 * (n - k)) (.int .u8 0)) ∧ Upd (bp :: bk ao) w wr)
      (fun _ i _ => n - (intOf i).toNat)
    case atStart => exact ⟨0, Nat.zero_le _, rfl, rfl, by rw [show (Value.int .u8 0).cells = #[Value.int .u8 0] from rfl, zeroCells1] at hH1; simpa using hH1, hU1⟩
    case round =>
      obtain ⟨k, hk, rfl, rfl, hH, hU⟩ := hrel
      by_cases hlt : k < n
      · have hk0 : ((k : Int) < n) := by omega
        obtain ⟨b, o, rfl, hr, hbb⟩ := hc.at_ (by omega)
        have hbn : b ∉ bp :: bk ao := hap.not b (by simp)
        have hcell : wr.cell? ⟨b, o + k, none⟩ = some (.int .i64 (vs[k]'(by omega))) := (hU.cell hbb hbn).trans (hr k _ (by simp [hvl, hlt]))
        have hcb := hH.cell
        have hcap : m + 8 * k + 8 ≤ c1 := by have := hH.own.cap; omega
        obtain ⟨x, hx⟩ : ∃ x, x = vs[k]'(by omega) := ⟨_, rfl⟩
        rw [← hx] at hcell
        have HX := Lib.hid hx
        clear hx
        go_wp2
        have hwr : IntKind.i64.wrap ((m : Int) + 8 * k + 8) = m + 8 * k + 8 := IntWalk.i64_in _ (by omega)
        refine wp_region_split (S := Upd [] wr) [(true, 0), (true, 1), (true, 2), (true, 3), (true, 4), (true, 5), (true, 6), (true, 7), (true, 8), (true, 9), (true, 10)] [] [11] (by kernel_rfl) (by kernel_rfl) (fun _ _ d _ _ h => by cases d <;> exact h) ((Upd.refl _ _).drew) ?_
        simp only [readsAt, opersAt, Option.map_some, List.filterMap_cons, List.filterMap_nil, List.getElem?_toArray, List.getElem?_cons_succ, List.getElem?_cons_zero]
        iterate 8 (refine ⟨_, Or.inl ⟨by rfl, fun w' hS => by first | (have q1 := Upd.cell1 hS hcb (by simp); first | (go_simp; done) | (go_simp; with_reducible rfl)) | (go_simp; done) | (go_simp; with_reducible rfl)⟩, ?_⟩; simp only [Act.put, List.setIfInBounds_toArray, List.set_cons_zero, List.set_cons_succ])
        refine ⟨_, yields_slice rfl 26 5 1 _ _ _ rfl Tryz.underlying26 (by kernel_rfl) g 0 _ _ rfl _ _ (m + 8 * k) (m + 8 * k + 8) rfl rfl (by omega) (by omega) (by omega) hcap (by omega) (m + 8 * k) 8 (c1 - (m + 8 * k)) (by omega) (by omega) rfl, ?_⟩
        simp only [Act.put, List.setIfInBounds_toArray, List.set_cons_zero, List.set_cons_succ]
        iterate 2 (refine ⟨_, Or.inl ⟨by rfl, fun w' hS => by first | (go_simp; done) | (go_simp; with_reducible rfl)⟩, ?_⟩; simp only [Act.put, List.setIfInBounds_toArray, List.set_cons_zero, List.set_cons_succ])
        simp only [readsThen, preThen]
        change wpList _ _ _ [_] _ _
        clear hwr
        go_wp2_with (go_at_call 242; (with_reducible refine (PutUint64 g (m + 8 * k) 8 _ (m + 8 * n) c1 _ _ _ (World.ownsRow.drew hH.own) ?_ (by omega)).mono ?_); (· have := Nat.mul_le_mul_left 8 (show k + 1 ≤ n by omega); omega); rintro e wx ⟨rfl, hrow, hux⟩; (first | rw [leV8_wrap] at hrow | rw [leV8_wrapM] at hrow))
        have hstep : putAt (bs ++ (vs.take k).flatMap (leV 8) ++ List.replicate (8 * (n - k)) (.int .u8 0)) (m + 8 * k) (leV 8 x) = bs ++ (vs.take (k + 1)).flatMap (leV 8) ++ List.replicate (8 * (n - (k + 1))) (.int .u8 0) := by
          rw [flatMap_take_succ _ _ _ (by omega), ← HX.out]
          refine enc_step (r := 8 * (n - (k + 1))) (m := 8) ?_ (leV_len _ _) ?_
          · congr 1; have : n - k = (n - (k + 1)) + 1 := by omega
            rw [this]; omega
          · rw [List.length_append, flatMap_len _ 8 (leV_len 8), List.length_take]; omega
        rw [hstep] at hrow
        have hux' : Upd [g] wr wx := hux.ofDrew
        have hH' : Hold wx bp 46 5 1 (some ⟨g, 0, none⟩) (m + 8 * n) c1 (bs ++ (vs.take (k + 1)).flatMap (leV 8) ++ List.replicate (8 * (n - (k + 1))) (.int .u8 0)) := ⟨hux'.at hH.blk (fun h => hH.ne (by simpa using h)), hrow, hH.ne⟩
        have hU' : Upd (bp :: bk ao) w wx := hU.trans hux' (fun y hy => by
          simp at hy; subst hy
          rcases hin1 y (by simp) with h | h
          · exact .inl (List.mem_cons_of_mem _ h)
          · exact .inr h)
        clear hstep hrow hux hux' hH hU
        go_roundw
        case rel => exact ⟨k + 1, by omega, by go_num, by simp; omega, hH', hU'⟩
        case measure => simp [intOf]; omega
      · have hk0 : n ≤ k := by omega
        obtain rfl : k = n := by omega
        go_wp2
        go_end0
        refine ⟨rfl, some ⟨g, 0, none⟩, c1, ?_, hU, hin1⟩
        rw [List.take_of_length_le (by omega), Nat.sub_self, Nat.mul_zero, List.replicate_zero, List.append_nil] at hH
        rw [Nat.mul_comm k 8]
        exact hH
set_option maxRecDepth 100000 in
set_option maxHeartbeats 1000000 in
theorem ColUInt32_EncodeColumn (ac : Option Addr) (n cc : Nat) (vs : List Int) (bp : Nat) (ao : Option Addr) (m cp : Nat) (bs : List Value) (w : World) (hc : View w 1 ac n (vs.map (Value.int .u32))) (hb : Hold w bp 46 5 1 ao m cp bs)
    (hap : Apart ac bp ao) (hac : ∀ x, x ∈ bk ac → x < w.heap.size) (hn : n ≤ 1000000) (hm : m ≤ 100000000) :
    Calls Tryz.prog 298 #[.slice ac n cc, .pointer (some ⟨bp, 0, none⟩)] w fun e w' => e = .returned (.tuple #[]) ∧ Grew w w' bp 46 5 1 ao (m + n * 4) (bs ++ vs.flatMap (leV 4)) := by
  have hvl : vs.length = n := by have := hc.len; simpa using this
  have hbl := hb.own.len
  by_cases h0 : n = 0
  · subst h0
    have hv0 : vs = [] := List.eq_nil_of_length_eq_zero hvl
    subst hv0
    go_enter Tryz.func298, Tryz.ntmps298
    go_wp2
    refine bodyPost_ret (results_none rfl _ _ _) rfl ?_
    exact ⟨rfl, ao, cp, by simpa using hb, Upd.refl _ _, In.self (fun _ h => h)⟩
  · have h1 : ((n : Int) == 0) = false := beq_eq_false_iff_ne.2 (by omega)
    have hc0 := hb.cell
    go_enter Tryz.func298, Tryz.ntmps298
    go_wp2_with (at_builtin; refine wpList_zeros _ rfl _ _ 26 3 rfl 5 (.int .u8 0) 1 1 .i64 Tryz.underlying26 Tryz.underlying3 Tryz.info5 rfl (by decide) (by simp [Value.cells, Value.oneCell']) hb.own rfl (4 * n) (by omega) rfl (by omega) (by decide) (by omega) ?_; intro ao1 c1 w1 hown1 hupd1 hin1; have hc1 := hb.cell1 hupd1; have hf1 := hb.free1 hupd1)
    have hH1 := hb.after hown1 hupd1 hin1
    have hU1 := hb.upd hupd1 (.slice ao1 (m + 4 * n) c1)
    clear hown1 hupd1 hc1 hf1
    generalize w1.setCell ⟨bp, 0, none⟩ (.slice ao1 (m + 4 * n) c1) = w2 at *
    obtain ⟨g, rfl⟩ := hH1.own.head (by omega)
    go_loopw [5, 30] (fun off i wr => ∃ k : Nat, k ≤ n ∧ i = .int .i64 k ∧ off = .int .i64 (m + 4 * k : Nat) ∧ Hold wr bp 46 5 1 (some ⟨g, 0, none⟩) (m + 4 * n) c1 (bs ++ (vs.take k).flatMap (leV 4) ++ List.replicate (4 * (n - k)) (.int .u8 0)) ∧ Upd (bp :: bk ao) w wr)
      (fun _ i _ => n - (intOf i).toNat)
    case atStart => exact ⟨0, Nat.zero_le _, rfl, rfl, by rw [show (Value.int .u8 0).cells = #[Value.int .u8 0] from rfl, zeroCells1] at hH1; simpa using hH1, hU1⟩
    case round =>
      obtain ⟨k, hk, rfl, rfl, hH, hU⟩ := hrel
      by_cases hlt : k < n
      · have hk0 : ((k : Int) < n) := by omega
        obtain ⟨b, o, rfl, hr, hbb⟩ := hc.at_ (by omega)
        have hbn : b ∉ bp :: bk ao := hap.not b (by simp)
        have hcell : wr.cell? ⟨b, o + k, none⟩ = some (.int .u32 (vs[k]'(by omega))) := (hU.cell hbb hbn).trans (hr k _ (by simp [hvl, hlt]))
        have hcb := hH.cell
        have hcap : m + 4 * k + 4 ≤ c1 := by have := hH.own.cap; omega
        obtain ⟨x, hx⟩ : ∃ x, x = vs[k]'(by omega) := ⟨_, rfl⟩
        rw [← hx] at hcell
        have HX := Lib.hid hx
        clear hx
        go_wp2
        have hwr : IntKind.i64.wrap ((m : Int) + 4 * k + 4) = m + 4 * k + 4 := IntWalk.i64_in _ (by omega)
        refine wp_region_split (S := Upd [] wr) [(true, 0), (true, 1), (true, 2), (true, 3), (true, 4), (true, 5), (true, 6), (true, 7), (true, 8), (true, 9)] [] [10] (by kernel_rfl) (by kernel_rfl) (fun _ _ d _ _ h => by cases d <;> exact h) ((Upd.refl _ _).drew) ?_
        simp only [readsAt, opersAt, Option.map_some, List.filterMap_cons, List.filterMap_nil, List.getElem?_toArray, List.getElem?_cons_succ, List.getElem?_cons_zero]
        iterate 8 (refine ⟨_, Or.inl ⟨by rfl, fun w' hS => by first | (have q1 := Upd.cell1 hS hcb (by simp); first | (go_simp; done) | (go_simp; with_reducible rfl)) | (go_simp; done) | (go_simp; with_reducible rfl)⟩, ?_⟩; simp only [Act.put, List.setIfInBounds_toArray, List.set_cons_zero, List.set_cons_succ])
        refine ⟨_, yields_slice rfl 26 5 1 _ _ _ rfl Tryz.underlying26 (by kernel_rfl) g 0 _ _ rfl _ _ (m + 4 * k) (m + 4 * k + 4) rfl rfl (by omega) (by omega) (by omega) hcap (by omega) (m + 4 * k) 4 (c1 - (m + 4 * k)) (by omega) (by omega) rfl, ?_⟩
        simp only [Act.put, List.setIfInBounds_toArray, List.set_cons_zero, List.set_cons_succ]
        refine ⟨_, Or.inl ⟨by rfl, fun w' hS => by first | (go_simp; done) | (go_simp; with_reducible rfl)⟩, ?_⟩
        simp only [Act.put, List.setIfInBounds_toArray, List.set_cons_zero, List.set_cons_succ]
        simp only [readsThen, preThen]
        change wpList _ _ _ [_] _ _
        clear hwr
        go_wp2_with (go_at_call 110; (with_reducible refine (PutUint32 g (m + 4 * k) 4 _ (m + 4 * n) c1 _ _ _ (World.ownsRow.drew hH.own) ?_ (by omega)).mono ?_); (· have := Nat.mul_le_mul_left 4 (show k + 1 ≤ n by omega); omega); rintro e wx ⟨rfl, hrow, hux⟩; skip)
        have hstep : putAt (bs ++ (vs.take k).flatMap (leV 4) ++ List.replicate (4 * (n - k)) (.int .u8 0)) (m + 4 * k) (leV 4 x) = bs ++ (vs.take (k + 1)).flatMap (leV 4) ++ List.replicate (4 * (n - (k + 1))) (.int .u8 0) := by
          rw [flatMap_take_succ _ _ _ (by omega), ← HX.out]
          refine enc_step (r := 4 * (n - (k + 1))) (m := 4) ?_ (leV_len _ _) ?_
          · congr 1; have : n - k = (n - (k + 1)) + 1 := by omega
            rw [this]; omega
          · rw [List.length_append, flatMap_len _ 4 (leV_len 4), List.length_take]; omega
        rw [hstep] at hrow
        have hux' : Upd [g] wr wx := hux.ofDrew
        have hH' : Hold wx bp 46 5 1 (some ⟨g, 0, none⟩) (m + 4 * n) c1 (bs ++ (vs.take (k + 1)).flatMap (leV 4) ++ List.replicate (4 * (n - (k + 1))) (.int .u8 0)) := ⟨hux'.at hH.blk (fun h => hH.ne (by simpa using h)), hrow, hH.ne⟩
        have hU' : Upd (bp :: bk ao) w wx := hU.trans hux' (fun y hy => by
          simp at hy; subst hy
          rcases hin1 y (by simp) with h | h
          · exact .inl (List.mem_cons_of_mem _ h)
          · exact .inr h)
        clear hstep hrow hux hux' hH hU
        go_roundw
        case rel => exact ⟨k + 1, by omega, by go_num, by simp; omega, hH', hU'⟩
        case measure => simp [intOf]; omega
      · have hk0 : n ≤ k := by omega
        obtain rfl : k = n := by omega
        go_wp2
        go_end0
        refine ⟨rfl, some ⟨g, 0, none⟩, c1, ?_, hU, hin1⟩
        rw [List.take_of_length_le (by omega), Nat.sub_self, Nat.mul_zero, List.replicate_zero, List.append_nil] at hH
        rw [Nat.mul_comm k 4]
        exact hH
set_option maxRecDepth 100000 in
set_option maxHeartbeats 1000000 in
theorem ColIPv4_EncodeColumn (ac : Option Addr) (n cc : Nat) (vs : List Int) (bp : Nat) (ao : Option Addr) (m cp : Nat) (bs : List Value) (w : World) (hc : View w 1 ac n (vs.map (Value.int .u32))) (hb : Hold w bp 46 5 1 ao m cp bs)
    (hap : Apart ac bp ao) (hac : ∀ x, x ∈ bk ac → x < w.heap.size) (hn : n ≤ 1000000) (hm : m ≤ 100000000) :
    Calls Tryz.prog 388 #[.slice ac n cc, .pointer (some ⟨bp, 0, none⟩)] w fun e w' => e = .returned (.tuple #[]) ∧ Grew w w' bp 46 5 1 ao (m + n * 4) (bs ++ vs.flatMap (leV 4)) := by
  have hvl : vs.length = n := by have := hc.len; simpa using this
  have hbl := hb.own.len
  by_cases h0 : n = 0
  · subst h0
    have hv0 : vs = [] := List.eq_nil_of_length_eq_zero hvl
    subst hv0
    go_enter Tryz.func388, Tryz.ntmps388
    go_wp2
    refine bodyPost_ret (results_none rfl _ _ _) rfl ?_
    exact ⟨rfl, ao, cp, by simpa using hb, Upd.refl _ _, In.self (fun _ h => h)⟩
  · have h1 : ((n : Int) == 0) = false := beq_eq_false_iff_ne.2 (by omega)
    have hc0 := hb.cell
    go_enter Tryz.func388, Tryz.ntmps388
    go_wp2_with (at_builtin; refine wpList_zeros _ rfl _ _ 26 3 rfl 5 (.int .u8 0) 1 1 .i64 Tryz.underlying26 Tryz.underlying3 Tryz.info5 rfl (by decide) (by simp [Value.cells, Value.oneCell']) hb.own rfl (4 * n) (by omega) rfl (by omega) (by decide) (by omega) ?_; intro ao1 c1 w1 hown1 hupd1 hin1; have hc1 := hb.cell1 hupd1; have hf1 := hb.free1 hupd1)
    have hH1 := hb.after hown1 hupd1 hin1
    have hU1 := hb.upd hupd1 (.slice ao1 (m + 4 * n) c1)
    clear hown1 hupd1 hc1 hf1
    generalize w1.setCell ⟨bp, 0, none⟩ (.slice ao1 (m + 4 * n) c1) = w2 at *
    obtain ⟨g, rfl⟩ := hH1.own.head (by omega)
    go_loopw [5, 30] (fun off i wr => ∃ k : Nat, k ≤ n ∧ i = .int .i64 k ∧ off = .int .i64 (m + 4 * k : Nat) ∧ Hold wr bp 46 5 1 (some ⟨g, 0, none⟩) (m + 4 * n) c1 (bs ++ (vs.take k).flatMap (leV 4) ++ List.replicate (4 * (n - k)) (.int .u8 0)) ∧ Upd (bp :: bk ao) w wr)
      (fun _ i _ => n - (intOf i).toNat)
    case atStart => exact ⟨0, Nat.zero_le _, rfl, rfl, by rw [show (Value.int .u8 0).cells = #[Value.int .u8 0] from rfl, zeroCells1] at hH1; simpa using hH1, hU1⟩
    case round =>
      obtain ⟨k, hk, rfl, rfl, hH, hU⟩ := hrel
      by_cases hlt : k < n
      · have hk0 : ((k : Int) < n) := by omega
        obtain ⟨b, o, rfl, hr, hbb⟩ := hc.at_ (by omega)
        have hbn : b ∉ bp :: bk ao := hap.not b (by simp)
        have hcell : wr.cell? ⟨b, o + k, none⟩ = some (.int .u32 (vs[k]'(by omega))) := (hU.cell hbb hbn).trans (hr k _ (by simp [hvl, hlt]))
        have hcb := hH.cell
        have hcap : m + 4 * k + 4 ≤ c1 := by have := hH.own.cap; omega
        obtain ⟨x, hx⟩ : ∃ x, x = vs[k]'(by omega) := ⟨_, rfl⟩
        rw [← hx] at hcell
        have HX := Lib.hid hx
        clear hx
        go_wp2
        have hwr : IntKind.i64.wrap ((m : Int) + 4 * k + 4) = m + 4 * k + 4 := IntWalk.i64_in _ (by omega)
        refine wp_region_split (S := Upd [] wr) [(true, 0), (true, 1), (true, 2), (true, 3), (true, 4), (true, 5), (true, 6), (true, 7), (true, 8), (true, 9)] [] [10] (by kernel_rfl) (by kernel_rfl) (fun _ _ d _ _ h => by cases d <;> exact h) ((Upd.refl _ _).drew) ?_
        simp only [readsAt, opersAt, Option.map_some, List.filterMap_cons, List.filterMap_nil, List.getElem?_toArray, List.getElem?_cons_succ, List.getElem?_cons_zero]
        iterate 8 (refine ⟨_, Or.inl ⟨by rfl, fun w' hS => by first | (have q1 := Upd.cell1 hS hcb (by simp); first | (go_simp; done) | (go_simp; with_reducible rfl)) | (go_simp; done) | (go_simp; with_reducible rfl)⟩, ?_⟩; simp only [Act.put, List.setIfInBounds_toArray, List.set_cons_zero, List.set_cons_succ])
        refine ⟨_, yields_slice rfl 26 5 1 _ _ _ rfl Tryz.underlying26 (by kernel_rfl) g 0 _ _ rfl _ _ (m + 4 * k) (m + 4 * k + 4) rfl rfl (by omega) (by omega) (by omega) hcap (by omega) (m + 4 * k) 4 (c1 - (m + 4 * k)) (by omega) (by omega) rfl, ?_⟩
        simp only [Act.put, List.setIfInBounds_toArray, List.set_cons_zero, List.set_cons_succ]
        refine ⟨_, Or.inl ⟨by rfl, fun w' hS => by first | (go_simp; done) | (go_simp; with_reducible rfl)⟩, ?_⟩
        simp only [Act.put, List.setIfInBounds_toArray, List.set_cons_zero, List.set_cons_succ]
        simp only [readsThen, preThen]
        change wpList _ _ _ [_] _ _
        clear hwr
        go_wp2_with (go_at_call 110; (with_reducible refine (PutUint32 g (m + 4 * k) 4 _ (m + 4 * n) c1 _ _ _ (World.ownsRow.drew hH.own) ?_ (by omega)).mono ?_); (· have := Nat.mul_le_mul_left 4 (show k + 1 ≤ n by omega); omega); rintro e wx ⟨rfl, hrow, hux⟩; skip)
        have hstep : putAt (bs ++ (vs.take k).flatMap (leV 4) ++ List.replicate (4 * (n - k)) (.int .u8 0)) (m + 4 * k) (leV 4 x) = bs ++ (vs.take (k + 1)).flatMap (leV 4) ++ List.replicate (4 * (n - (k + 1))) (.int .u8 0) := by
          rw [flatMap_take_succ _ _ _ (by omega), ← HX.out]
          refine enc_step (r := 4 * (n - (k + 1))) (m := 4) ?_ (leV_len _ _) ?_
          · congr 1; have : n - k = (n - (k + 1)) + 1 := by omega
            rw [this]; omega
          · rw [List.length_append, flatMap_len _ 4 (leV_len 4), List.length_take]; omega
        rw [hstep] at hrow
        have hux' : Upd [g] wr wx := hux.ofDrew
        have hH' : Hold wx bp 46 5 1 (some ⟨g, 0, none⟩) (m + 4 * n) c1 (bs ++ (vs.take (k + 1)).flatMap (leV 4) ++ List.replicate (4 * (n - (k + 1))) (.int .u8 0)) := ⟨hux'.at hH.blk (fun h => hH.ne (by simpa using h)), hrow, hH.ne⟩
        have hU' : Upd (bp :: bk ao) w wx := hU.trans hux' (fun y hy => by
          simp at hy; subst hy
          rcases hin1 y (by simp) with h | h
          · exact .inl (List.mem_cons_of_mem _ h)
          · exact .inr h)
        clear hstep hrow hux hux' hH hU
        go_roundw
        case rel => exact ⟨k + 1, by omega, by go_num, by simp; omega, hH', hU'⟩
        case measure => simp [intOf]; omega
      · have hk0 : n ≤ k := by omega
        obtain rfl : k = n := by omega
        go_wp2
        go_end0
        refine ⟨rfl, some ⟨g, 0, none⟩, c1, ?_, hU, hin1⟩
        rw [List.take_of_length_le (by omega), Nat.sub_self, Nat.mul_zero, List.replicate_zero, List.append_nil] at hH
        rw [Nat.mul_comm k 4]
        exact hH
end Go.Proofs.YtfbohkbpgfnceaaGreatDoor
/- Columns of numbers of 2, 4, 8 bytes (one cell each): DecodeColumn. -/
namespace Go.Proofs.YtfbohkbpgfnceaaGreatDoor
set_option linter.unusedVariables false
set_option linter.unusedSimpArgs false
open Go Go.RowKit
theorem i16_back (x : Int) (h0 : (-32768 : Int) ≤ x) (h1 : x < 32768) : IntKind.i16.wrap (x % 65536) = x := by simp [IntKind.wrap, IntKind.bits, IntKind.signed]; omega
theorem i32_back (x : Int) (h0 : (-2147483648 : Int) ≤ x) (h1 : x < 2147483648) : IntKind.i32.wrap (x % 4294967296) = x := by rw [IntKind.wrap_i32]; omega
theorem i64_back (x : Int) (h0 : (-9223372036854775808 : Int) ≤ x) (h1 : x < 9223372036854775808) : IntKind.i64.wrap (x % 18446744073709551616) = x := by rw [IntKind.wrap_i64]; omega
set_option maxRecDepth 100000 in
set_option maxHeartbeats 1000000 in
theorem ColInt16_DecodeColumn (p rd bf d : Nat) (ao : Option Addr) (n : Nat) (xs : List Int) (hx : ∀ x ∈ xs, (-32768 : Int) ≤ x ∧ x < 32768) (rest : List Value) (w : World) (h : Rdr w rd bf d ao (xs.flatMap (leV 2) ++ rest)) (hn : xs.length = n) (h0 : 0 < n) (h30 : n ≤ 30)
    (hH : Hold w p 112 113 1 none 0 0 []) (ho : Off p rd bf d ao) :
    Calls Tryz.prog 210 #[.pointer (some ⟨p, 0, none⟩), .pointer (some ⟨rd, 0, none⟩), .int .i64 n] w fun e w' => e = .returned .nilIface ∧ Got w w' p 112 113 1 rd bf d ao n (xs.map (Value.int .i16)) rest := by
  have hfl : (xs.flatMap (leV 2)).length = n * 2 := by rw [flatMap_len _ 2 (leV_len 2), hn]
  obtain ⟨N, hN⟩ : ∃ N, N = n * 2 := ⟨_, rfl⟩
  rw [← hN] at hfl
  have ht : (xs.flatMap (leV 2) ++ rest).take N = xs.flatMap (leV 2) := by rw [List.take_append_of_le_length (by omega), List.take_of_length_le (by omega)]
  have hd : (xs.flatMap (leV 2) ++ rest).drop N = rest := by rw [List.drop_append_of_le_length (by omega), List.drop_of_length_le (by omega), List.nil_append]
  have hLN : N ≤ (xs.flatMap (leV 2) ++ rest).length := by rw [List.length_append]; omega
  have h1 : ((n : Int) == 0) = false := beq_eq_false_iff_ne.2 (by omega)
  have hmul : IntKind.i64.wrap ((n : Int) * 2) = N := by rw [IntWalk.i64_in _ (by omega)]; omega
  have hsub : IntKind.i64.wrap ((N : Int) - 2) = N - 2 := IntWalk.i64_in _ (by omega)
  have hb1 : ((N : Int) - 2) < N := by omega
  have hb0 : 0 ≤ ((N : Int) - 2) := by omega
  have hpl := hH.lt
  have HN := Lib.hid hN
  clear hN
  go_enter Tryz.func210, Tryz.ntmps210
  go_wp2_with (go_at_call 205; apply stopHere)
  show Calls _ _ _ _ _
  refine (ReadRawB rd bf d N _ (by first | rfl | exact hmul | (have := HN.out; omega)) ao _ w h (by have := HN.out; omega) (by have := HN.out; omega) hLN).mono ?_
  rintro e w1 ⟨g, c1, rfl, hR1, hG1, hu1, hi1⟩
  dsimp only
  rw [ht] at hG1
  rw [hd] at hR1
  have hP1 := hH.kept hu1 ho.not (by simp)
  have q0 := hP1.cell
  have hr1 := hG1.own.view 0 (xs.flatMap (leV 2)) (fun j v hj => by rw [Nat.zero_add]; exact hj)
  have hgl : g < w1.heap.size := hG1.own.lt g (by simp)
  obtain ⟨u, hu⟩ : ∃ u, w1.cell? ⟨g, N - 2, none⟩ = some u := by
    obtain ⟨u, hu⟩ : ∃ u, (xs.flatMap (leV 2))[N - 2]? = some u := ⟨(xs.flatMap (leV 2))[N - 2]'(by have := HN.out; omega), by simp⟩
    exact ⟨u, by have := hr1 _ u hu; rwa [Nat.zero_add] at this⟩
  have hcap := hG1.own.cap.1
  go_wp2
  go_loopw [9, 10] (fun v i wr => ∃ (k : Nat) (av : Option Addr) (c : Nat), k ≤ n ∧ i = .int .i64 (2 * k : Nat) ∧ v = .slice av k c ∧ Row wr 113 1 av k c ((xs.take k).map (Value.int .i16)) ∧ Upd [] w1 wr ∧ In [] w1.heap.size av)
    (fun _ i _ => N - (intOf i).toNat)
  case atStart => exact ⟨0, none, 0, Nat.zero_le _, rfl, rfl, Row.nil, Upd.refl _ _, In.nil⟩
  case round =>
    obtain ⟨k, av, c, hk, rfl, rfl, hown, hU, hI⟩ := hrel
    by_cases hlt : k < n
    · have hk0 : (2 : Int) * k ≤ N - 2 := by have := HN.out; omega
      have hwr : IntKind.i64.wrap ((2 : Int) * k + 2) = 2 * k + 2 := IntWalk.i64_in _ (by omega)
      have hpc := hU.range (flat_piece hr1 (leV_len 2) k (by omega)) hgl (by simp)
      have hgl' := Nat.lt_of_lt_of_le hgl hU.size
      obtain ⟨x, hxx⟩ : ∃ x, x = xs[k]'(by omega) := ⟨_, rfl⟩
      rw [← hxx] at hpc
      have hrg := hx x (by rw [hxx]; exact List.getElem_mem _)
      have hcv : IntKind.i16.wrap (x % 65536) = x := i16_back x hrg.1 hrg.2
      have HX := Lib.hid hxx
      clear hxx hx
      go_wp2
      refine wp_region_split (S := Upd [] wr) [(false, 0), (true, 1), (true, 2), (true, 3), (true, 4), (true, 5), (true, 6)] [] [7, 8, 9, 10, 11] (by kernel_rfl) (by kernel_rfl) (fun _ _ d _ _ h => by cases d <;> exact h) ((Upd.refl _ _).drew) ?_
      simp only [readsAt, opersAt, Option.map_some, List.filterMap_cons, List.filterMap_nil, List.getElem?_toArray, List.getElem?_cons_succ, List.getElem?_cons_zero]
      iterate 6 (refine ⟨_, Or.inl ⟨by rfl, fun w' hS => by first | (skip; first | (go_simp; done) | (go_simp; with_reducible rfl)) | (go_simp; done) | (go_simp; with_reducible rfl)⟩, ?_⟩; simp only [Act.put, List.setIfInBounds_toArray, List.set_cons_zero, List.set_cons_succ])
      refine ⟨_, yields_slice rfl 26 5 1 _ _ _ rfl Tryz.underlying26 (by kernel_rfl) g 0 _ _ rfl _ _ (2 * k) (2 * k + 2) rfl rfl (by omega) (by omega) (by omega) (by have := HN.out; omega) (by have := HN.out; omega) (2 * k) 2 (c1 - 2 * k) (by omega) (by omega) rfl, ?_⟩
      simp only [Act.put, List.setIfInBounds_toArray, List.set_cons_zero, List.set_cons_succ]
      simp only [readsThen, preThen]
      change wpList _ _ _ [_, _, _, _, _] _ _
      go_wp2_with (first
        | (go_at_call 217; (refine (Uint16at g (2 * k) _ x _ ((Upd.refl [] wr).drew.range hpc hgl' (by simp)) hgl').mono ?_); rintro e w2 ⟨rfl, hu2⟩; have hown2 := hown.upd hu2.ofDrew (by simp))
        | (at_builtin; refine wpList_app1 _ rfl _ _ 112 rfl 113 (.int .i16 0) 1 2 Tryz.underlying112 Tryz.info113 rfl (by decide) hown2 rfl [.int .i16 x] rfl rfl rfl (by simp [Value.oneCell']) (by decide) (by omega) ?_; intro av3 c3 w3 hown3 hupd3 hin3))
      have hU2 : Upd [] w1 w2 := hU.trans hu2.ofDrew (fun _ h => .inl h)
      have hU3 : Upd [] w1 w3 := hU2.own hupd3 hI
      have hI3 : In [] w1.heap.size av3 := hI.step hin3 hU2.size
      have hR3 : Row w3 113 1 av3 (k + 1) c3 ((xs.take (k + 1)).map (Value.int .i16)) := by
        rw [List.take_succ_eq_append_getElem (by omega), ← HX.out, List.map_append]
        exact hown3
      clear hown hown2 hown3 hpc hupd3 hin3
      go_roundw
      case rel => exact ⟨k + 1, av3, c3, by omega, by simp; omega, rfl, hR3, hU3, hI3⟩
      case measure => have := HN.out; simp [intOf]; omega
    · have hk0 : ¬ ((2 : Int) * k ≤ N - 2) := by have := HN.out; omega
      obtain rfl : k = n := by omega
      rw [List.take_of_length_le (by omega)] at hown
      have hP2 := hP1.kept hU (by simp) (by simp)
      have p0 := hP2.cell
      have pf := hP2.free
      go_wp2
      go_ret
      have hpo : Off p rd bf d (some ⟨g, 0, none⟩) := ho.step hi1 hpl
      have hs1 : w.heap.size ≤ w1.heap.size := hu1.size
      have hne : p ∉ bk av := fun hp => by
        rcases hI p hp with h | h
        · simp at h
        · omega
      have hsc := (Upd.refl [p] wr).setCell (p := ⟨p, 0, none⟩) (Value.slice av k c) (by simp)
      refine ⟨rfl, av, c, some ⟨g, 0, none⟩, Hold.stored hP2.blk hown hne, (hR1.kept hU (by simp)).keptK hsc hpo, ?_, hI.le hs1, hi1, fun y hy hy' => ?_⟩
      · exact ((hu1.mono (fun y hy => .inl (List.mem_cons_of_mem _ hy))).trans hU (fun _ h => by simp at h)).setCell _ (by simp)
      · have hyl : w1.heap.size ≤ y := by
          rcases hI y hy with h | h
          · simp at h
          · exact h
        have hl1 := hR1.ltr
        have hl2 := hR1.ltb
        simp [rdF] at hy'
        rcases hy' with h | h | h <;> omega
set_option maxRecDepth 100000 in
set_option maxHeartbeats 1000000 in
theorem ColInt32_DecodeColumn (p rd bf d : Nat) (ao : Option Addr) (n : Nat) (xs : List Int) (hx : ∀ x ∈ xs, (-2147483648 : Int) ≤ x ∧ x < 2147483648) (rest : List Value) (w : World) (h : Rdr w rd bf d ao (xs.flatMap (leV 4) ++ rest)) (hn : xs.length = n) (h0 : 0 < n) (h30 : n ≤ 30)
    (hH : Hold w p 122 21 1 none 0 0 []) (ho : Off p rd bf d ao) :
    Calls Tryz.prog 223 #[.pointer (some ⟨p, 0, none⟩), .pointer (some ⟨rd, 0, none⟩), .int .i64 n] w fun e w' => e = .returned .nilIface ∧ Got w w' p 122 21 1 rd bf d ao n (xs.map (Value.int .i32)) rest := by
  have hfl : (xs.flatMap (leV 4)).length = n * 4 := by rw [flatMap_len _ 4 (leV_len 4), hn]
  obtain ⟨N, hN⟩ : ∃ N, N = n * 4 := ⟨_, rfl⟩
  rw [← hN] at hfl
  have ht : (xs.flatMap (leV 4) ++ rest).take N = xs.flatMap (leV 4) := by rw [List.take_append_of_le_length (by omega), List.take_of_length_le (by omega)]
  have hd : (xs.flatMap (leV 4) ++ rest).drop N = rest := by rw [List.drop_append_of_le_length (by omega), List.drop_of_length_le (by omega), List.nil_append]
  have hLN : N ≤ (xs.flatMap (leV 4) ++ rest).length := by rw [List.length_append]; omega
  have h1 : ((n : Int) == 0) = false := beq_eq_false_iff_ne.2 (by omega)
  have hmul : IntKind.i64.wrap ((n : Int) * 4) = N := by rw [IntWalk.i64_in _ (by omega)]; omega
  have hsub : IntKind.i64.wrap ((N : Int) - 4) = N - 4 := IntWalk.i64_in _ (by omega)
  have hb1 : ((N : Int) - 4) < N := by omega
  have hb0 : 0 ≤ ((N : Int) - 4) := by omega
  have hpl := hH.lt
  have HN := Lib.hid hN
  clear hN
  go_enter Tryz.func223, Tryz.ntmps223
  go_wp2_with (go_at_call 205; apply stopHere)
  show Calls _ _ _ _ _
  refine (ReadRawB rd bf d N _ (by first | rfl | exact hmul | (have := HN.out; omega)) ao _ w h (by have := HN.out; omega) (by have := HN.out; omega) hLN).mono ?_
  rintro e w1 ⟨g, c1, rfl, hR1, hG1, hu1, hi1⟩
  dsimp only
  rw [ht] at hG1
  rw [hd] at hR1
  have hP1 := hH.kept hu1 ho.not (by simp)
  have q0 := hP1.cell
  have hr1 := hG1.own.view 0 (xs.flatMap (leV 4)) (fun j v hj => by rw [Nat.zero_add]; exact hj)
  have hgl : g < w1.heap.size := hG1.own.lt g (by simp)
  obtain ⟨u, hu⟩ : ∃ u, w1.cell? ⟨g, N - 4, none⟩ = some u := by
    obtain ⟨u, hu⟩ : ∃ u, (xs.flatMap (leV 4))[N - 4]? = some u := ⟨(xs.flatMap (leV 4))[N - 4]'(by have := HN.out; omega), by simp⟩
    exact ⟨u, by have := hr1 _ u hu; rwa [Nat.zero_add] at this⟩
  have hcap := hG1.own.cap.1
  go_wp2
  go_loopw [9, 10] (fun v i wr => ∃ (k : Nat) (av : Option Addr) (c : Nat), k ≤ n ∧ i = .int .i64 (4 * k : Nat) ∧ v = .slice av k c ∧ Row wr 21 1 av k c ((xs.take k).map (Value.int .i32)) ∧ Upd [] w1 wr ∧ In [] w1.heap.size av)
    (fun _ i _ => N - (intOf i).toNat)
  case atStart => exact ⟨0, none, 0, Nat.zero_le _, rfl, rfl, Row.nil, Upd.refl _ _, In.nil⟩
  case round =>
    obtain ⟨k, av, c, hk, rfl, rfl, hown, hU, hI⟩ := hrel
    by_cases hlt : k < n
    · have hk0 : (4 : Int) * k ≤ N - 4 := by have := HN.out; omega
      have hwr : IntKind.i64.wrap ((4 : Int) * k + 4) = 4 * k + 4 := IntWalk.i64_in _ (by omega)
      have hpc := hU.range (flat_piece hr1 (leV_len 4) k (by omega)) hgl (by simp)
      have hgl' := Nat.lt_of_lt_of_le hgl hU.size
      obtain ⟨x, hxx⟩ : ∃ x, x = xs[k]'(by omega) := ⟨_, rfl⟩
      rw [← hxx] at hpc
      have hrg := hx x (by rw [hxx]; exact List.getElem_mem _)
      have hcv : IntKind.i32.wrap (x % 4294967296) = x := i32_back x hrg.1 hrg.2
      have HX := Lib.hid hxx
      clear hxx hx
      go_wp2
      refine wp_region_split (S := Upd [] wr) [(false, 0), (true, 1), (true, 2), (true, 3), (true, 4), (true, 5), (true, 6)] [] [7, 8, 9, 10, 11] (by kernel_rfl) (by kernel_rfl) (fun _ _ d _ _ h => by cases d <;> exact h) ((Upd.refl _ _).drew) ?_
      simp only [readsAt, opersAt, Option.map_some, List.filterMap_cons, List.filterMap_nil, List.getElem?_toArray, List.getElem?_cons_succ, List.getElem?_cons_zero]
      iterate 6 (refine ⟨_, Or.inl ⟨by rfl, fun w' hS => by first | (skip; first | (go_simp; done) | (go_simp; with_reducible rfl)) | (go_simp; done) | (go_simp; with_reducible rfl)⟩, ?_⟩; simp only [Act.put, List.setIfInBounds_toArray, List.set_cons_zero, List.set_cons_succ])
      refine ⟨_, yields_slice rfl 26 5 1 _ _ _ rfl Tryz.underlying26 (by kernel_rfl) g 0 _ _ rfl _ _ (4 * k) (4 * k + 4) rfl rfl (by omega) (by omega) (by omega) (by have := HN.out; omega) (by have := HN.out; omega) (4 * k) 4 (c1 - 4 * k) (by omega) (by omega) rfl, ?_⟩
      simp only [Act.put, List.setIfInBounds_toArray, List.set_cons_zero, List.set_cons_succ]
      simp only [readsThen, preThen]
      change wpList _ _ _ [_, _, _, _, _] _ _
      go_wp2_with (first
        | (go_at_call 113; (refine (Uint32at g (4 * k) _ x _ ((Upd.refl [] wr).drew.range hpc hgl' (by simp)) hgl').mono ?_); rintro e w2 ⟨rfl, hu2⟩; have hown2 := hown.upd hu2.ofDrew (by simp))
        | (at_builtin; refine wpList_app1 _ rfl _ _ 122 rfl 21 (.int .i32 0) 1 4 Tryz.underlying122 Tryz.info21 rfl (by decide) hown2 rfl [.int .i32 x] rfl rfl rfl (by simp [Value.oneCell']) (by decide) (by omega) ?_; intro av3 c3 w3 hown3 hupd3 hin3))
      have hU2 : Upd [] w1 w2 := hU.trans hu2.ofDrew (fun _ h => .inl h)
      have hU3 : Upd [] w1 w3 := hU2.own hupd3 hI
      have hI3 : In [] w1.heap.size av3 := hI.step hin3 hU2.size
      have hR3 : Row w3 21 1 av3 (k + 1) c3 ((xs.take (k + 1)).map (Value.int .i32)) := by
        rw [List.take_succ_eq_append_getElem (by omega), ← HX.out, List.map_append]
        exact hown3
      clear hown hown2 hown3 hpc hupd3 hin3
      go_roundw
      case rel => exact ⟨k + 1, av3, c3, by omega, by simp; omega, rfl, hR3, hU3, hI3⟩
      case measure => have := HN.out; simp [intOf]; omega
    · have hk0 : ¬ ((4 : Int) * k ≤ N - 4) := by have := HN.out; omega
      obtain rfl : k = n := by omega
      rw [List.take_of_length_le (by omega)] at hown
      have hP2 := hP1.kept hU (by simp) (by simp)
      have p0 := hP2.cell
      have pf := hP2.free
      go_wp2
      go_ret
      have hpo : Off p rd bf d (some ⟨g, 0, none⟩) := ho.step hi1 hpl
      have hs1 : w.heap.size ≤ w1.heap.size := hu1.size
      have hne : p ∉ bk av := fun hp => by
        rcases hI p hp with h | h
        · simp at h
        · omega
      have hsc := (Upd.refl [p] wr).setCell (p := ⟨p, 0, none⟩) (Value.slice av k c) (by simp)
      refine ⟨rfl, av, c, some ⟨g, 0, none⟩, Hold.stored hP2.blk hown hne, (hR1.kept hU (by simp)).keptK hsc hpo, ?_, hI.le hs1, hi1, fun y hy hy' => ?_⟩
      · exact ((hu1.mono (fun y hy => .inl (List.mem_cons_of_mem _ hy))).trans hU (fun _ h => by simp at h)).setCell _ (by simp)
      · have hyl : w1.heap.size ≤ y := by
          rcases hI y hy with h | h
          · simp at h
          · exact h
        have hl1 := hR1.ltr
        have hl2 := hR1.ltb
        simp [rdF] at hy'
        rcases hy' with h | h | h <;> omega
set_option maxRecDepth 100000 in
set_option maxHeartbeats 1000000 in
theorem ColInt64_DecodeColumn (p rd bf d : Nat) (ao : Option Addr) (n : Nat) (xs : List Int) (hx : ∀ x ∈ xs, (-9223372036854775808 : Int) ≤ x ∧ x < 9223372036854775808) (rest : List Value) (w : World) (h : Rdr w rd bf d ao (xs.flatMap (leV 8) ++ rest)) (hn : xs.length = n) (h0 : 0 < n) (h30 : n ≤ 30)
    (hH : Hold w p 131 2 1 none 0 0 []) (ho : Off p rd bf d ao) :
    Calls Tryz.prog 234 #[.pointer (some ⟨p, 0, none⟩), .pointer (some ⟨rd, 0, none⟩), .int .i64 n] w fun e w' => e = .returned .nilIface ∧ Got w w' p 131 2 1 rd bf d ao n (xs.map (Value.int .i64)) rest := by
  have hfl : (xs.flatMap (leV 8)).length = n * 8 := by rw [flatMap_len _ 8 (leV_len 8), hn]
  obtain ⟨N, hN⟩ : ∃ N, N = n * 8 := ⟨_, rfl⟩
  rw [← hN] at hfl
  have ht : (xs.flatMap (leV 8) ++ rest).take N = xs.flatMap (leV 8) := by rw [List.take_append_of_le_length (by omega), List.take_of_length_le (by omega)]
  have hd : (xs.flatMap (leV 8) ++ rest).drop N = rest := by rw [List.drop_append_of_le_length (by omega), List.drop_of_length_le (by omega), List.nil_append]
  have hLN : N ≤ (xs.flatMap (leV 8) ++ rest).length := by rw [List.length_append]; omega
  have h1 : ((n : Int) == 0) = false := beq_eq_false_iff_ne.2 (by omega)
  have hmul : IntKind.i64.wrap ((n : Int) * 8) = N := by rw [IntWalk.i64_in _ (by omega)]; omega
  have hsub : IntKind.i64.wrap ((N : Int) - 8) = N - 8 := IntWalk.i64_in _ (by omega)
  have hb1 : ((N : Int) - 8) < N := by omega
  have hb0 : 0 ≤ ((N : Int) - 8) := by omega
  have hpl := hH.lt
  have HN := Lib.hid hN
  clear hN
  go_enter Tryz.func234, Tryz.ntmps234
  go_wp2_with (go_at_call 205; apply stopHere)
  show Calls _ _ _ _ _
  refine (ReadRawB rd bf d N _ (by first | rfl | exact hmul | (have := HN.out; omega)) ao _ w h (by have := HN.out; omega) (by have := HN.out; omega) hLN).mono ?_
  rintro e w1 ⟨g, c1, rfl, hR1, hG1, hu1, hi1⟩
  dsimp only
  rw [ht] at hG1
  rw [hd] at hR1
  have hP1 := hH.kept hu1 ho.not (by simp)
  have q0 := hP1.cell
  have hr1 := hG1.own.view 0 (xs.flatMap (leV 8)) (fun j v hj => by rw [Nat.zero_add]; exact hj)
  have hgl : g < w1.heap.size := hG1.own.lt g (by simp)
  obtain ⟨u, hu⟩ : ∃ u, w1.cell? ⟨g, N - 8, none⟩ = some u := by
    obtain ⟨u, hu⟩ : ∃ u, (xs.flatMap (leV 8))[N - 8]? = some u := ⟨(xs.flatMap (leV 8))[N - 8]'(by have := HN.out; omega), by simp⟩
    exact ⟨u, by have := hr1 _ u hu; rwa [Nat.zero_add] at this⟩
  have hcap := hG1.own.cap.1
  go_wp2
  go_loopw [9, 10] (fun v i wr => ∃ (k : Nat) (av : Option Addr) (c : Nat), k ≤ n ∧ i = .int .i64 (8 * k : Nat) ∧ v = .slice av k c ∧ Row wr 2 1 av k c ((xs.take k).map (Value.int .i64)) ∧ Upd [] w1 wr ∧ In [] w1.heap.size av)
    (fun _ i _ => N - (intOf i).toNat)
  case atStart => exact ⟨0, none, 0, Nat.zero_le _, rfl, rfl, Row.nil, Upd.refl _ _, In.nil⟩
  case round =>
    obtain ⟨k, av, c, hk, rfl, rfl, hown, hU, hI⟩ := hrel
    by_cases hlt : k < n
    · have hk0 : (8 : Int) * k ≤ N - 8 := by have := HN.out; omega
      have hwr : IntKind.i64.wrap ((8 : Int) * k + 8) = 8 * k + 8 := IntWalk.i64_in _ (by omega)
      have hpc := hU.range (flat_piece hr1 (leV_len 8) k (by omega)) hgl (by simp)
      have hgl' := Nat.lt_of_lt_of_le hgl hU.size
      obtain ⟨x, hxx⟩ : ∃ x, x = xs[k]'(by omega) := ⟨_, rfl⟩
      rw [← hxx] at hpc
      have hrg := hx x (by rw [hxx]; exact List.getElem_mem _)
      have hcv : IntKind.i64.wrap (x % 18446744073709551616) = x := i64_back x hrg.1 hrg.2
      have HX := Lib.hid hxx
      clear hxx hx
      go_wp2
      refine wp_region_split (S := Upd [] wr) [(false, 0), (true, 1), (true, 2), (true, 3), (true, 4), (true, 5), (true, 6)] [] [7, 8, 9, 10, 11] (by kernel_rfl) (by kernel_rfl) (fun _ _ d _ _ h => by cases d <;> exact h) ((Upd.refl _ _).drew) ?_
      simp only [readsAt, opersAt, Option.map_some, List.filterMap_cons, List.filterMap_nil, List.getElem?_toArray, List.getElem?_cons_succ, List.getElem?_cons_zero]
      iterate 6 (refine ⟨_, Or.inl ⟨by rfl, fun w' hS => by first | (skip; first | (go_simp; done) | (go_simp; with_reducible rfl)) | (go_simp; done) | (go_simp; with_reducible rfl)⟩, ?_⟩; simp only [Act.put, List.setIfInBounds_toArray, List.set_cons_zero, List.set_cons_succ])
      refine ⟨_, yields_slice rfl 26 5 1 _ _ _ rfl Tryz.underlying26 (by kernel_rfl) g 0 _ _ rfl _ _ (8 * k) (8 * k + 8) rfl rfl (by omega) (by omega) (by omega) (by have := HN.out; omega) (by have := HN.out; omega) (8 * k) 8 (c1 - 8 * k) (by omega) (by omega) rfl, ?_⟩
      simp only [Act.put, List.setIfInBounds_toArray, List.set_cons_zero, List.set_cons_succ]
      simp only [readsThen, preThen]
      change wpList _ _ _ [_, _, _, _, _] _ _
      go_wp2_with (first
        | (go_at_call 241; (refine (Uint64at g (8 * k) _ x _ ((Upd.refl [] wr).drew.range hpc hgl' (by simp)) hgl').mono ?_); rintro e w2 ⟨rfl, hu2⟩; have hown2 := hown.upd hu2.ofDrew (by simp))
        | (at_builtin; refine wpList_app1 _ rfl _ _ 131 rfl 2 (.int .i64 0) 1 8 Tryz.underlying131 Tryz.info2 rfl (by decide) hown2 rfl [.int .i64 x] rfl rfl rfl (by simp [Value.oneCell']) (by decide) (by omega) ?_; intro av3 c3 w3 hown3 hupd3 hin3))
      have hU2 : Upd [] w1 w2 := hU.trans hu2.ofDrew (fun _ h => .inl h)
      have hU3 : Upd [] w1 w3 := hU2.own hupd3 hI
      have hI3 : In [] w1.heap.size av3 := hI.step hin3 hU2.size
      have hR3 : Row w3 2 1 av3 (k + 1) c3 ((xs.take (k + 1)).map (Value.int .i64)) := by
        rw [List.take_succ_eq_append_getElem (by omega), ← HX.out, List.map_append]
        exact hown3
      clear hown hown2 hown3 hpc hupd3 hin3
      go_roundw
      case rel => exact ⟨k + 1, av3, c3, by omega, by simp; omega, rfl, hR3, hU3, hI3⟩
      case measure => have := HN.out; simp [intOf]; omega
    · have hk0 : ¬ ((8 : Int) * k ≤ N - 8) := by have := HN.out; omega
      obtain rfl : k = n := by omega
      rw [List.take_of_length_le (by omega)] at hown
      have hP2 := hP1.kept hU (by simp) (by simp)
      have p0 := hP2.cell
      have pf := hP2.free
      go_wp2
      go_ret
      have hpo : Off p rd bf d (some ⟨g, 0, none⟩) := ho.step hi1 hpl
      have hs1 : w.heap.size ≤ w1.heap.size := hu1.size
      have hne : p ∉ bk av := fun hp => by
        rcases hI p hp with h | h
        · simp at h
        · omega
      have hsc := (Upd.refl [p] wr).setCell (p := ⟨p, 0, none⟩) (Value.slice av k c) (by simp)
      refine ⟨rfl, av, c, some ⟨g, 0, none⟩, Hold.stored hP2.blk hown hne, (hR1.kept hU (by simp)).keptK hsc hpo, ?_, hI.le hs1, hi1, fun y hy hy' => ?_⟩
      · exact ((hu1.mono (fun y hy => .inl (List.mem_cons_of_mem _ hy))).trans hU (fun _ h => by simp at h)).setCell _ (by simp)
      · have hyl : w1.heap.size ≤ y := by
          rcases hI y hy with h | h
          · simp at h
          · exact h
        have hl1 := hR1.ltr
        have hl2 := hR1.ltb
        simp [rdF] at hy'
        rcases hy' with h | h | h <;> omega
set_option maxRecDepth 100000 in
set_option maxHeartbeats 1000000 in
theorem ColUInt16_DecodeColumn (p rd bf d : Nat) (ao : Option Addr) (n : Nat) (xs : List Int) (hx : ∀ x ∈ xs, (0 : Int) ≤ x ∧ x < 65536) (rest : List Value) (w : World) (h : Rdr w rd bf d ao (xs.flatMap (leV 2) ++ rest)) (hn : xs.length = n) (h0 : 0 < n) (h30 : n ≤ 30)
    (hH : Hold w p 173 22 1 none 0 0 []) (ho : Off p rd bf d ao) :
    Calls Tryz.prog 286 #[.pointer (some ⟨p, 0, none⟩), .pointer (some ⟨rd, 0, none⟩), .int .i64 n] w fun e w' => e = .returned .nilIface ∧ Got w w' p 173 22 1 rd bf d ao n (xs.map (Value.int .u16)) rest := by
  have hfl : (xs.flatMap (leV 2)).length = n * 2 := by rw [flatMap_len _ 2 (leV_len 2), hn]
  obtain ⟨N, hN⟩ : ∃ N, N = n * 2 := ⟨_, rfl⟩
  rw [← hN] at hfl
  have ht : (xs.flatMap (leV 2) ++ rest).take N = xs.flatMap (leV 2) := by rw [List.take_append_of_le_length (by omega), List.take_of_length_le (by omega)]
  have hd : (xs.flatMap (leV 2) ++ rest).drop N = rest := by rw [List.drop_append_of_le_length (by omega), List.drop_of_length_le (by omega), List.nil_append]
  have hLN : N ≤ (xs.flatMap (leV 2) ++ rest).length := by rw [List.length_append]; omega
  have h1 : ((n : Int) == 0) = false := beq_eq_false_iff_ne.2 (by omega)
  have hmul : IntKind.i64.wrap ((n : Int) * 2) = N := by rw [IntWalk.i64_in _ (by omega)]; omega
  have hsub : IntKind.i64.wrap ((N : Int) - 2) = N - 2 := IntWalk.i64_in _ (by omega)
  have hb1 : ((N : Int) - 2) < N := by omega
  have hb0 : 0 ≤ ((N : Int) - 2) := by omega
  have hpl := hH.lt
  have HN := Lib.hid hN
  clear hN
  go_enter Tryz.func286, Tryz.ntmps286
  go_wp2_with (go_at_call 205; apply stopHere)
  show Calls _ _ _ _ _
  refine (ReadRawB rd bf d N _ (by first | rfl | exact hmul | (have := HN.out; omega)) ao _ w h (by have := HN.out; omega) (by have := HN.out; omega) hLN).mono ?_
  rintro e w1 ⟨g, c1, rfl, hR1, hG1, hu1, hi1⟩
  dsimp only
  rw [ht] at hG1
  rw [hd] at hR1
  have hP1 := hH.kept hu1 ho.not (by simp)
  have q0 := hP1.cell
  have hr1 := hG1.own.view 0 (xs.flatMap (leV 2)) (fun j v hj => by rw [Nat.zero_add]; exact hj)
  have hgl : g < w1.heap.size := hG1.own.lt g (by simp)
  obtain ⟨u, hu⟩ : ∃ u, w1.cell? ⟨g, N - 2, none⟩ = some u := by
    obtain ⟨u, hu⟩ : ∃ u, (xs.flatMap (leV 2))[N - 2]? = some u := ⟨(xs.flatMap (leV 2))[N - 2]'(by have := HN.out; omega), by simp⟩
    exact ⟨u, by have := hr1 _ u hu; rwa [Nat.zero_add] at this⟩
  have hcap := hG1.own.cap.1
  go_wp2
  go_loopw [9, 10] (fun v i wr => ∃ (k : Nat) (av : Option Addr) (c : Nat), k ≤ n ∧ i = .int .i64 (2 * k : Nat) ∧ v = .slice av k c ∧ Row wr 22 1 av k c ((xs.take k).map (Value.int .u16)) ∧ Upd [] w1 wr ∧ In [] w1.heap.size av)
    (fun _ i _ => N - (intOf i).toNat)
  case atStart => exact ⟨0, none, 0, Nat.zero_le _, rfl, rfl, Row.nil, Upd.refl _ _, In.nil⟩
  case round =>
    obtain ⟨k, av, c, hk, rfl, rfl, hown, hU, hI⟩ := hrel
    by_cases hlt : k < n
    · have hk0 : (2 : Int) * k ≤ N - 2 := by have := HN.out; omega
      have hwr : IntKind.i64.wrap ((2 : Int) * k + 2) = 2 * k + 2 := IntWalk.i64_in _ (by omega)
      have hpc := hU.range (flat_piece hr1 (leV_len 2) k (by omega)) hgl (by simp)
      have hgl' := Nat.lt_of_lt_of_le hgl hU.size
      obtain ⟨x, hxx⟩ : ∃ x, x = xs[k]'(by omega) := ⟨_, rfl⟩
      rw [← hxx] at hpc
      have hrg := hx x (by rw [hxx]; exact List.getElem_mem _)
      have hcv : x % 65536 = x := by omega
      have HX := Lib.hid hxx
      clear hxx hx
      go_wp2
      refine wp_region_split (S := Upd [] wr) [(false, 0), (true, 1), (true, 2), (true, 3), (true, 4), (true, 5), (true, 6)] [] [7, 8, 9, 10] (by kernel_rfl) (by kernel_rfl) (fun _ _ d _ _ h => by cases d <;> exact h) ((Upd.refl _ _).drew) ?_
      simp only [readsAt, opersAt, Option.map_some, List.filterMap_cons, List.filterMap_nil, List.getElem?_toArray, List.getElem?_cons_succ, List.getElem?_cons_zero]
      iterate 6 (refine ⟨_, Or.inl ⟨by rfl, fun w' hS => by first | (skip; first | (go_simp; done) | (go_simp; with_reducible rfl)) | (go_simp; done) | (go_simp; with_reducible rfl)⟩, ?_⟩; simp only [Act.put, List.setIfInBounds_toArray, List.set_cons_zero, List.set_cons_succ])
      refine ⟨_, yields_slice rfl 26 5 1 _ _ _ rfl Tryz.underlying26 (by kernel_rfl) g 0 _ _ rfl _ _ (2 * k) (2 * k + 2) rfl rfl (by omega) (by omega) (by omega) (by have := HN.out; omega) (by have := HN.out; omega) (2 * k) 2 (c1 - 2 * k) (by omega) (by omega) rfl, ?_⟩
      simp only [Act.put, List.setIfInBounds_toArray, List.set_cons_zero, List.set_cons_succ]
      simp only [readsThen, preThen]
      change wpList _ _ _ [_, _, _, _] _ _
      go_wp2_with (first
        | (go_at_call 217; (refine (Uint16at g (2 * k) _ x _ ((Upd.refl [] wr).drew.range hpc hgl' (by simp)) hgl').mono ?_); rintro e w2 ⟨rfl, hu2⟩; have hown2 := hown.upd hu2.ofDrew (by simp))
        | (at_builtin; refine wpList_app1 _ rfl _ _ 173 rfl 22 (.int .u16 0) 1 2 Tryz.underlying173 Tryz.info22 rfl (by decide) hown2 rfl [.int .u16 x] rfl rfl rfl (by simp [Value.oneCell']) (by decide) (by omega) ?_; intro av3 c3 w3 hown3 hupd3 hin3))
      have hU2 : Upd [] w1 w2 := hU.trans hu2.ofDrew (fun _ h => .inl h)
      have hU3 : Upd [] w1 w3 := hU2.own hupd3 hI
      have hI3 : In [] w1.heap.size av3 := hI.step hin3 hU2.size
      have hR3 : Row w3 22 1 av3 (k + 1) c3 ((xs.take (k + 1)).map (Value.int .u16)) := by
        rw [List.take_succ_eq_append_getElem (by omega), ← HX.out, List.map_append]
        exact hown3
      clear hown hown2 hown3 hpc hupd3 hin3
      go_roundw
      case rel => exact ⟨k + 1, av3, c3, by omega, by simp; omega, rfl, hR3, hU3, hI3⟩
      case measure => have := HN.out; simp [intOf]; omega
    · have hk0 : ¬ ((2 : Int) * k ≤ N - 2) := by have := HN.out; omega
      obtain rfl : k = n := by omega
      rw [List.take_of_length_le (by omega)] at hown
      have hP2 := hP1.kept hU (by simp) (by simp)
      have p0 := hP2.cell
      have pf := hP2.free
      go_wp2
      go_ret
      have hpo : Off p rd bf d (some ⟨g, 0, none⟩) := ho.step hi1 hpl
      have hs1 : w.heap.size ≤ w1.heap.size := hu1.size
      have hne : p ∉ bk av := fun hp => by
        rcases hI p hp with h | h
        · simp at h
        · omega
      have hsc := (Upd.refl [p] wr).setCell (p := ⟨p, 0, none⟩) (Value.slice av k c) (by simp)
      refine ⟨rfl, av, c, some ⟨g, 0, none⟩, Hold.stored hP2.blk hown hne, (hR1.kept hU (by simp)).keptK hsc hpo, ?_, hI.le hs1, hi1, fun y hy hy' => ?_⟩
      · exact ((hu1.mono (fun y hy => .inl (List.mem_cons_of_mem _ hy))).trans hU (fun _ h => by simp at h)).setCell _ (by simp)
      · have hyl : w1.heap.size ≤ y := by
          rcases hI y hy with h | h
          · simp at h
          · exact h
        have hl1 := hR1.ltr
        have hl2 := hR1.ltb
        simp [rdF] at hy'
        rcases hy' with h | h | h <;> omega
set_option maxRecDepth 100000 in
set_option maxHeartbeats 1000000 in
theorem ColUInt32_DecodeColumn (p rd bf d : Nat) (ao : Option Addr) (n : Nat) (xs : List Int) (hx : ∀ x ∈ xs, (0 : Int) ≤ x ∧ x < 4294967296) (rest : List Value) (w : World) (h : Rdr w rd bf d ao (xs.flatMap (leV 4) ++ rest)) (hn : xs.length = n) (h0 : 0 < n) (h30 : n ≤ 30)
    (hH : Hold w p 182 69 1 none 0 0 []) (ho : Off p rd bf d ao) :
    Calls Tryz.prog 297 #[.pointer (some ⟨p, 0, none⟩), .pointer (some ⟨rd, 0, none⟩), .int .i64 n] w fun e w' => e = .returned .nilIface ∧ Got w w' p 182 69 1 rd bf d ao n (xs.map (Value.int .u32)) rest := by
  have hfl : (xs.flatMap (leV 4)).length = n * 4 := by rw [flatMap_len _ 4 (leV_len 4), hn]
  obtain ⟨N, hN⟩ : ∃ N, N = n * 4 := ⟨_, rfl⟩
  rw [← hN] at hfl
  have ht : (xs.flatMap (leV 4) ++ rest).take N = xs.flatMap (leV 4) := by rw [List.take_append_of_le_length (by omega), List.take_of_length_le (by omega)]
  have hd : (xs.flatMap (leV 4) ++ rest).drop N = rest := by rw [List.drop_append_of_le_length (by omega), List.drop_of_length_le (by omega), List.nil_append]
  have hLN : N ≤ (xs.flatMap (leV 4) ++ rest).length := by rw [List.length_append]; omega
  have h1 : ((n : Int) == 0) = false := beq_eq_false_iff_ne.2 (by omega)
  have hmul : IntKind.i64.wrap ((n : Int) * 4) = N := by rw [IntWalk.i64_in _ (by omega)]; omega
  have hsub : IntKind.i64.wrap ((N : Int) - 4) = N - 4 := IntWalk.i64_in _ (by omega)
  have hb1 : ((N : Int) - 4) < N := by omega
  have hb0 : 0 ≤ ((N : Int) - 4) := by omega
  have hpl := hH.lt
  have HN := Lib.hid hN
  clear hN
  go_enter Tryz.func297, Tryz.ntmps297
  go_wp2_with (go_at_call 205; apply stopHere)
  show Calls _ _ _ _ _
  refine (ReadRawB rd bf d N _ (by first | rfl | exact hmul | (have := HN.out; omega)) ao _ w h (by have := HN.out; omega) (by have := HN.out; omega) hLN).mono ?_
  rintro e w1 ⟨g, c1, rfl, hR1, hG1, hu1, hi1⟩
  dsimp only
  rw [ht] at hG1
  rw [hd] at hR1
  have hP1 := hH.kept hu1 ho.not (by simp)
  have q0 := hP1.cell
  have hr1 := hG1.own.view 0 (xs.flatMap (leV 4)) (fun j v hj => by rw [Nat.zero_add]; exact hj)
  have hgl : g < w1.heap.size := hG1.own.lt g (by simp)
  obtain ⟨u, hu⟩ : ∃ u, w1.cell? ⟨g, N - 4, none⟩ = some u := by
    obtain ⟨u, hu⟩ : ∃ u, (xs.flatMap (leV 4))[N - 4]? = some u := ⟨(xs.flatMap (leV 4))[N - 4]'(by have := HN.out; omega), by simp⟩
    exact ⟨u, by have := hr1 _ u hu; rwa [Nat.zero_add] at this⟩
  have hcap := hG1.own.cap.1
  go_wp2
  go_loopw [9, 10] (fun v i wr => ∃ (k : Nat) (av : Option Addr) (c : Nat), k ≤ n ∧ i = .int .i64 (4 * k : Nat) ∧ v = .slice av k c ∧ Row wr 69 1 av k c ((xs.take k).map (Value.int .u32)) ∧ Upd [] w1 wr ∧ In [] w1.heap.size av)
    (fun _ i _ => N - (intOf i).toNat)
  case atStart => exact ⟨0, none, 0, Nat.zero_le _, rfl, rfl, Row.nil, Upd.refl _ _, In.nil⟩
  case round =>
    obtain ⟨k, av, c, hk, rfl, rfl, hown, hU, hI⟩ := hrel
    by_cases hlt : k < n
    · have hk0 : (4 : Int) * k ≤ N - 4 := by have := HN.out; omega
      have hwr : IntKind.i64.wrap ((4 : Int) * k + 4) = 4 * k + 4 := IntWalk.i64_in _ (by omega)
      have hpc := hU.range (flat_piece hr1 (leV_len 4) k (by omega)) hgl (by simp)
      have hgl' := Nat.lt_of_lt_of_le hgl hU.size
      obtain ⟨x, hxx⟩ : ∃ x, x = xs[k]'(by omega) := ⟨_, rfl⟩
      rw [← hxx] at hpc
      have hrg := hx x (by rw [hxx]; exact List.getElem_mem _)
      have hcv : x % 4294967296 = x := by omega
      have HX := Lib.hid hxx
      clear hxx hx
      go_wp2
      refine wp_region_split (S := Upd [] wr) [(false, 0), (true, 1), (true, 2), (true, 3), (true, 4), (true, 5), (true, 6)] [] [7, 8, 9, 10] (by kernel_rfl) (by kernel_rfl) (fun _ _ d _ _ h => by cases d <;> exact h) ((Upd.refl _ _).drew) ?_
      simp only [readsAt, opersAt, Option.map_some, List.filterMap_cons, List.filterMap_nil, List.getElem?_toArray, List.getElem?_cons_succ, List.getElem?_cons_zero]
      iterate 6 (refine ⟨_, Or.inl ⟨by rfl, fun w' hS => by first | (skip; first | (go_simp; done) | (go_simp; with_reducible rfl)) | (go_simp; done) | (go_simp; with_reducible rfl)⟩, ?_⟩; simp only [Act.put, List.setIfInBounds_toArray, List.set_cons_zero, List.set_cons_succ])
      refine ⟨_, yields_slice rfl 26 5 1 _ _ _ rfl Tryz.underlying26 (by kernel_rfl) g 0 _ _ rfl _ _ (4 * k) (4 * k + 4) rfl rfl (by omega) (by omega) (by omega) (by have := HN.out; omega) (by have := HN.out; omega) (4 * k) 4 (c1 - 4 * k) (by omega) (by omega) rfl, ?_⟩
      simp only [Act.put, List.setIfInBounds_toArray, List.set_cons_zero, List.set_cons_succ]
      simp only [readsThen, preThen]
      change wpList _ _ _ [_, _, _, _] _ _
      go_wp2_with (first
        | (go_at_call 113; (refine (Uint32at g (4 * k) _ x _ ((Upd.refl [] wr).drew.range hpc hgl' (by simp)) hgl').mono ?_); rintro e w2 ⟨rfl, hu2⟩; have hown2 := hown.upd hu2.ofDrew (by simp))
        | (at_builtin; refine wpList_app1 _ rfl _ _ 182 rfl 69 (.int .u32 0) 1 4 Tryz.underlying182 Tryz.info69 rfl (by decide) hown2 rfl [.int .u32 x] rfl rfl rfl (by simp [Value.oneCell']) (by decide) (by omega) ?_; intro av3 c3 w3 hown3 hupd3 hin3))
      have hU2 : Upd [] w1 w2 := hU.trans hu2.ofDrew (fun _ h => .inl h)
      have hU3 : Upd [] w1 w3 := hU2.own hupd3 hI
      have hI3 : In [] w1.heap.size av3 := hI.step hin3 hU2.size
      have hR3 : Row w3 69 1 av3 (k + 1) c3 ((xs.take (k + 1)).map (Value.int .u32)) := by
        rw [List.take_succ_eq_append_getElem (by omega), ← HX.out, List.map_append]
        exact hown3
      clear hown hown2 hown3 hpc hupd3 hin3
      go_roundw
      case rel => exact ⟨k + 1, av3, c3, by omega, by simp; omega, rfl, hR3, hU3, hI3⟩
      case measure => have := HN.out; simp [intOf]; omega
    · have hk0 : ¬ ((4 : Int) * k ≤ N - 4) := by have := HN.out; omega
      obtain rfl : k = n := by omega
      rw [List.take_of_length_le (by omega)] at hown
      have hP2 := hP1.kept hU (by simp) (by simp)
      have p0 := hP2.cell
      have pf := hP2.free
      go_wp2
      go_ret
      have hpo : Off p rd bf d (some ⟨g, 0, none⟩) := ho.step hi1 hpl
      have hs1 : w.heap.size ≤ w1.heap.size := hu1.size
      have hne : p ∉ bk av := fun hp => by
        rcases hI p hp with h | h
        · simp at h
        · omega
      have hsc := (Upd.refl [p] wr).setCell (p := ⟨p, 0, none⟩) (Value.slice av k c) (by simp)
      refine ⟨rfl, av, c, some ⟨g, 0, none⟩, Hold.stored hP2.blk hown hne, (hR1.kept hU (by simp)).keptK hsc hpo, ?_, hI.le hs1, hi1, fun y hy hy' => ?_⟩
      · exact ((hu1.mono (fun y hy => .inl (List.mem_cons_of_mem _ hy))).trans hU (fun _ h => by simp at h)).setCell _ (by simp)
      · have hyl : w1.heap.size ≤ y := by
          rcases hI y hy with h | h
          · simp at h
          · exact h
        have hl1 := hR1.ltr
        have hl2 := hR1.ltb
        simp [rdF] at hy'
        rcases hy' with h | h | h <;> omega
set_option maxRecDepth 100000 in
set_option maxHeartbeats 1000000 in
theorem ColUInt64_DecodeColumn (p rd bf d : Nat) (ao : Option Addr) (n : Nat) (xs : List Int) (hx : ∀ x ∈ xs, (0 : Int) ≤ x ∧ x < 18446744073709551616) (rest : List Value) (w : World) (h : Rdr w rd bf d ao (xs.flatMap (leV 8) ++ rest)) (hn : xs.length = n) (h0 : 0 < n) (h30 : n ≤ 30)
    (hH : Hold w p 191 65 1 none 0 0 []) (ho : Off p rd bf d ao) :
    Calls Tryz.prog 308 #[.pointer (some ⟨p, 0, none⟩), .pointer (some ⟨rd, 0, none⟩), .int .i64 n] w fun e w' => e = .returned .nilIface ∧ Got w w' p 191 65 1 rd bf d ao n (xs.map (Value.int .u64)) rest := by
  have hfl : (xs.flatMap (leV 8)).length = n * 8 := by rw [flatMap_len _ 8 (leV_len 8), hn]
  obtain ⟨N, hN⟩ : ∃ N, N = n * 8 := ⟨_, rfl⟩
  rw [← hN] at hfl
  have ht : (xs.flatMap (leV 8) ++ rest).take N = xs.flatMap (leV 8) := by rw [List.take_append_of_le_length (by omega), List.take_of_length_le (by omega)]
  have hd : (xs.flatMap (leV 8) ++ rest).drop N = rest := by rw [List.drop_append_of_le_length (by omega), List.drop_of_length_le (by omega), List.nil_append]
  have hLN : N ≤ (xs.flatMap (leV 8) ++ rest).length := by rw [List.length_append]; omega
  have h1 : ((n : Int) == 0) = false := beq_eq_false_iff_ne.2 (by omega)
  have hmul : IntKind.i64.wrap ((n : Int) * 8) = N := by rw [IntWalk.i64_in _ (by omega)]; omega
  have hsub : IntKind.i64.wrap ((N : Int) - 8) = N - 8 := IntWalk.i64_in _ (by omega)
  have hb1 : ((N : Int) - 8) < N := by omega
  have hb0 : 0 ≤ ((N : Int) - 8) := by omega
  have hpl := hH.lt
  have HN := Lib.hid hN
  clear hN
  go_enter Tryz.func308, Tryz.ntmps308
  go_wp2_with (go_at_call 205; apply stopHere)
  show Calls _ _ _ _ _
  refine (ReadRawB rd bf d N _ (by first | rfl | exact hmul | (have := HN.out; omega)) ao _ w h (by have := HN.out; omega) (by have := HN.out; omega) hLN).mono ?_
  rintro e w1 ⟨g, c1, rfl, hR1, hG1, hu1, hi1⟩
  dsimp only
  rw [ht] at hG1
  rw [hd] at hR1
  have hP1 := hH.kept hu1 ho.not (by simp)
  have q0 := hP1.cell
  have hr1 := hG1.own.view 0 (xs.flatMap (leV 8)) (fun j v hj => by rw [Nat.zero_add]; exact hj)
  have hgl : g < w1.heap.size := hG1.own.lt g (by simp)
  obtain ⟨u, hu⟩ : ∃ u, w1.cell? ⟨g, N - 8, none⟩ = some u := by
    obtain ⟨u, hu⟩ : ∃ u, (xs.flatMap (leV 8))[N - 8]? = some u := ⟨(xs.flatMap (leV 8))[N - 8]'(by have := HN.out; omega), by simp⟩
    exact ⟨u, by have := hr1 _ u hu; rwa [Nat.zero_add] at this⟩
  have hcap := hG1.own.cap.1
  go_wp2
  go_loopw [9, 10] (fun v i wr => ∃ (k : Nat) (av : Option Addr) (c : Nat), k ≤ n ∧ i = .int .i64 (8 * k : Nat) ∧ v = .slice av k c ∧ Row wr 65 1 av k c ((xs.take k).map (Value.int .u64)) ∧ Upd [] w1 wr ∧ In [] w1.heap.size av)
    (fun _ i _ => N - (intOf i).toNat)
  case atStart => exact ⟨0, none, 0, Nat.zero_le _, rfl, rfl, Row.nil, Upd.refl _ _, In.nil⟩
  case round =>
    obtain ⟨k, av, c, hk, rfl, rfl, hown, hU, hI⟩ := hrel
    by_cases hlt : k < n
    · have hk0 : (8 : Int) * k ≤ N - 8 := by have := HN.out; omega
      have hwr : IntKind.i64.wrap ((8 : Int) * k + 8) = 8 * k + 8 := IntWalk.i64_in _ (by omega)
      have hpc := hU.range (flat_piece hr1 (leV_len 8) k (by omega)) hgl (by simp)
      have hgl' := Nat.lt_of_lt_of_le hgl hU.size
      obtain ⟨x, hxx⟩ : ∃ x, x = xs[k]'(by omega) := ⟨_, rfl⟩
      rw [← hxx] at hpc
      have hrg := hx x (by rw [hxx]; exact List.getElem_mem _)
      have hcv : x % 18446744073709551616 = x := by omega
      have HX := Lib.hid hxx
      clear hxx hx
      go_wp2
      refine wp_region_split (S := Upd [] wr) [(false, 0), (true, 1), (true, 2), (true, 3), (true, 4), (true, 5), (true, 6)] [] [7, 8, 9, 10] (by kernel_rfl) (by kernel_rfl) (fun _ _ d _ _ h => by cases d <;> exact h) ((Upd.refl _ _).drew) ?_
      simp only [readsAt, opersAt, Option.map_some, List.filterMap_cons, List.filterMap_nil, List.getElem?_toArray, List.getElem?_cons_succ, List.getElem?_cons_zero]
      iterate 6 (refine ⟨_, Or.inl ⟨by rfl, fun w' hS => by first | (skip; first | (go_simp; done) | (go_simp; with_reducible rfl)) | (go_simp; done) | (go_simp; with_reducible rfl)⟩, ?_⟩; simp only [Act.put, List.setIfInBounds_toArray, List.set_cons_zero, List.set_cons_succ])
      refine ⟨_, yields_slice rfl 26 5 1 _ _ _ rfl Tryz.underlying26 (by kernel_rfl) g 0 _ _ rfl _ _ (8 * k) (8 * k + 8) rfl rfl (by omega) (by omega) (by omega) (by have := HN.out; omega) (by have := HN.out; omega) (8 * k) 8 (c1 - 8 * k) (by omega) (by omega) rfl, ?_⟩
      simp only [Act.put, List.setIfInBounds_toArray, List.set_cons_zero, List.set_cons_succ]
      simp only [readsThen, preThen]
      change wpList _ _ _ [_, _, _, _] _ _
      go_wp2_with (first
        | (go_at_call 241; (refine (Uint64at g (8 * k) _ x _ ((Upd.refl [] wr).drew.range hpc hgl' (by simp)) hgl').mono ?_); rintro e w2 ⟨rfl, hu2⟩; have hown2 := hown.upd hu2.ofDrew (by simp))
        | (at_builtin; refine wpList_app1 _ rfl _ _ 191 rfl 65 (.int .u64 0) 1 8 Tryz.underlying191 Tryz.info65 rfl (by decide) hown2 rfl [.int .u64 x] rfl rfl rfl (by simp [Value.oneCell']) (by decide) (by omega) ?_; intro av3 c3 w3 hown3 hupd3 hin3))
      have hU2 : Upd [] w1 w2 := hU.trans hu2.ofDrew (fun _ h => .inl h)
      have hU3 : Upd [] w1 w3 := hU2.own hupd3 hI
      have hI3 : In [] w1.heap.size av3 := hI.step hin3 hU2.size
      have hR3 : Row w3 65 1 av3 (k + 1) c3 ((xs.take (k + 1)).map (Value.int .u64)) := by
        rw [List.take_succ_eq_append_getElem (by omega), ← HX.out, List.map_append]
        exact hown3
      clear hown hown2 hown3 hpc hupd3 hin3
      go_roundw
      case rel => exact ⟨k + 1, av3, c3, by omega, by simp; omega, rfl, hR3, hU3, hI3⟩
      case measure => have := HN.out; simp [intOf]; omega
    · have hk0 : ¬ ((8 : Int) * k ≤ N - 8) := by have := HN.out; omega
      obtain rfl : k = n := by omega
      rw [List.take_of_length_le (by omega)] at hown
      have hP2 := hP1.kept hU (by simp) (by simp)
      have p0 := hP2.cell
      have pf := hP2.free
      go_wp2
      go_ret
      have hpo : Off p rd bf d (some ⟨g, 0, none⟩) := ho.step hi1 hpl
      have hs1 : w.heap.size ≤ w1.heap.size := hu1.size
      have hne : p ∉ bk av := fun hp => by
        rcases hI p hp with h | h
        · simp at h
        · omega
      have hsc := (Upd.refl [p] wr).setCell (p := ⟨p, 0, none⟩) (Value.slice av k c) (by simp)
      refine ⟨rfl, av, c, some ⟨g, 0, none⟩, Hold.stored hP2.blk hown hne, (hR1.kept hU (by simp)).keptK hsc hpo, ?_, hI.le hs1, hi1, fun y hy hy' => ?_⟩
      · exact ((hu1.mono (fun y hy => .inl (List.mem_cons_of_mem _ hy))).trans hU (fun _ h => by simp at h)).setCell _ (by simp)
      · have hyl : w1.heap.size ≤ y := by
          rcases hI y hy with h | h
          · simp at h
          · exact h
        have hl1 := hR1.ltr
        have hl2 := hR1.ltb
        simp [rdF] at hy'
        rcases hy' with h | h | h <;> omega
set_option maxRecDepth 100000 in
set_option maxHeartbeats 1000000 in
theorem ColIPv4_DecodeColumn (p rd bf d : Nat) (ao : Option Addr) (n : Nat) (xs : List Int) (hx : ∀ x ∈ xs, (0 : Int) ≤ x ∧ x < 4294967296) (rest : List Value) (w : World) (h : Rdr w rd bf d ao (xs.flatMap (leV 4) ++ rest)) (hn : xs.length = n) (h0 : 0 < n) (h30 : n ≤ 30)
    (hH : Hold w p 284 285 1 none 0 0 []) (ho : Off p rd bf d ao) :
    Calls Tryz.prog 387 #[.pointer (some ⟨p, 0, none⟩), .pointer (some ⟨rd, 0, none⟩), .int .i64 n] w fun e w' => e = .returned .nilIface ∧ Got w w' p 284 285 1 rd bf d ao n (xs.map (Value.int .u32)) rest := by
  have hfl : (xs.flatMap (leV 4)).length = n * 4 := by rw [flatMap_len _ 4 (leV_len 4), hn]
  obtain ⟨N, hN⟩ : ∃ N, N = n * 4 := ⟨_, rfl⟩
  rw [← hN] at hfl
  have ht : (xs.flatMap (leV 4) ++ rest).take N = xs.flatMap (leV 4) := by rw [List.take_append_of_le_length (by omega), List.take_of_length_le (by omega)]
  have hd : (xs.flatMap (leV 4) ++ rest).drop N = rest := by rw [List.drop_append_of_le_length (by omega), List.drop_of_length_le (by omega), List.nil_append]
  have hLN : N ≤ (xs.flatMap (leV 4) ++ rest).length := by rw [List.length_append]; omega
  have h1 : ((n : Int) == 0) = false := beq_eq_false_iff_ne.2 (by omega)
  have hmul : IntKind.i64.wrap ((n : Int) * 4) = N := by rw [IntWalk.i64_in _ (by omega)]; omega
  have hsub : IntKind.i64.wrap ((N : Int) - 4) = N - 4 := IntWalk.i64_in _ (by omega)
  have hb1 : ((N : Int) - 4) < N := by omega
  have hb0 : 0 ≤ ((N : Int) - 4) := by omega
  have hpl := hH.lt
  have HN := Lib.hid hN
  clear hN
  go_enter Tryz.func387, Tryz.ntmps387
  go_wp2_with (go_at_call 205; apply stopHere)
  show Calls _ _ _ _ _
  refine (ReadRawB rd bf d N _ (by first | rfl | exact hmul | (have := HN.out; omega)) ao _ w h (by have := HN.out; omega) (by have := HN.out; omega) hLN).mono ?_
  rintro e w1 ⟨g, c1, rfl, hR1, hG1, hu1, hi1⟩
  dsimp only
  rw [ht] at hG1
  rw [hd] at hR1
  have hP1 := hH.kept hu1 ho.not (by simp)
  have q0 := hP1.cell
  have hr1 := hG1.own.view 0 (xs.flatMap (leV 4)) (fun j v hj => by rw [Nat.zero_add]; exact hj)
  have hgl : g < w1.heap.size := hG1.own.lt g (by simp)
  obtain ⟨u, hu⟩ : ∃ u, w1.cell? ⟨g, N - 4, none⟩ = some u := by
    obtain ⟨u, hu⟩ : ∃ u, (xs.flatMap (leV 4))[N - 4]? = some u := ⟨(xs.flatMap (leV 4))[N - 4]'(by have := HN.out; omega), by simp⟩
    exact ⟨u, by have := hr1 _ u hu; rwa [Nat.zero_add] at this⟩
  have hcap := hG1.own.cap.1
  go_wp2
  go_loopw [9, 10] (fun v i wr => ∃ (k : Nat) (av : Option Addr) (c : Nat), k ≤ n ∧ i = .int .i64 (4 * k : Nat) ∧ v = .slice av k c ∧ Row wr 285 1 av k c ((xs.take k).map (Value.int .u32)) ∧ Upd [] w1 wr ∧ In [] w1.heap.size av)
    (fun _ i _ => N - (intOf i).toNat)
  case atStart => exact ⟨0, none, 0, Nat.zero_le _, rfl, rfl, Row.nil, Upd.refl _ _, In.nil⟩
  case round =>
    obtain ⟨k, av, c, hk, rfl, rfl, hown, hU, hI⟩ := hrel
    by_cases hlt : k < n
    · have hk0 : (4 : Int) * k ≤ N - 4 := by have := HN.out; omega
      have hwr : IntKind.i64.wrap ((4 : Int) * k + 4) = 4 * k + 4 := IntWalk.i64_in _ (by omega)
      have hpc := hU.range (flat_piece hr1 (leV_len 4) k (by omega)) hgl (by simp)
      have hgl' := Nat.lt_of_lt_of_le hgl hU.size
      obtain ⟨x, hxx⟩ : ∃ x, x = xs[k]'(by omega) := ⟨_, rfl⟩
      rw [← hxx] at hpc
      have hrg := hx x (by rw [hxx]; exact List.getElem_mem _)
      have hcv : x % 4294967296 = x := by omega
      have HX := Lib.hid hxx
      clear hxx hx
      go_wp2
      refine wp_region_split (S := Upd [] wr) [(false, 0), (true, 1), (true, 2), (true, 3), (true, 4), (true, 5), (true, 6)] [] [7, 8, 9, 10] (by kernel_rfl) (by kernel_rfl) (fun _ _ d _ _ h => by cases d <;> exact h) ((Upd.refl _ _).drew) ?_
      simp only [readsAt, opersAt, Option.map_some, List.filterMap_cons, List.filterMap_nil, List.getElem?_toArray, List.getElem?_cons_succ, List.getElem?_cons_zero]
      iterate 6 (refine ⟨_, Or.inl ⟨by rfl, fun w' hS => by first | (skip; first | (go_simp; done) | (go_simp; with_reducible rfl)) | (go_simp; done) | (go_simp; with_reducible rfl)⟩, ?_⟩; simp only [Act.put, List.setIfInBounds_toArray, List.set_cons_zero, List.set_cons_succ])
      refine ⟨_, yields_slice rfl 26 5 1 _ _ _ rfl Tryz.underlying26 (by kernel_rfl) g 0 _ _ rfl _ _ (4 * k) (4 * k + 4) rfl rfl (by omega) (by omega) (by omega) (by have := HN.out; omega) (by have := HN.out; omega) (4 * k) 4 (c1 - 4 * k) (by omega) (by omega) rfl, ?_⟩
      simp only [Act.put, List.setIfInBounds_toArray, List.set_cons_zero, List.set_cons_succ]
      simp only [readsThen, preThen]
      change wpList _ _ _ [_, _, _, _] _ _
      go_wp2_with (first
        | (go_at_call 113; (refine (Uint32at g (4 * k) _ x _ ((Upd.refl [] wr).drew.range hpc hgl' (by simp)) hgl').mono ?_); rintro e w2 ⟨rfl, hu2⟩; have hown2 := hown.upd hu2.ofDrew (by simp))
        | (at_builtin; refine wpList_app1 _ rfl _ _ 284 rfl 285 (.int .u32 0) 1 4 Tryz.underlying284 Tryz.info285 rfl (by decide) hown2 rfl [.int .u32 x] rfl rfl rfl (by simp [Value.oneCell']) (by decide) (by omega) ?_; intro av3 c3 w3 hown3 hupd3 hin3))
      have hU2 : Upd [] w1 w2 := hU.trans hu2.ofDrew (fun _ h => .inl h)
      have hU3 : Upd [] w1 w3 := hU2.own hupd3 hI
      have hI3 : In [] w1.heap.size av3 := hI.step hin3 hU2.size
      have hR3 : Row w3 285 1 av3 (k + 1) c3 ((xs.take (k + 1)).map (Value.int .u32)) := by
        rw [List.take_succ_eq_append_getElem (by omega), ← HX.out, List.map_append]
        exact hown3
      clear hown hown2 hown3 hpc hupd3 hin3
      go_roundw
      case rel => exact ⟨k + 1, av3, c3, by omega, by simp; omega, rfl, hR3, hU3, hI3⟩
      case measure => have := HN.out; simp [intOf]; omega
    · have hk0 : ¬ ((4 : Int) * k ≤ N - 4) := by have := HN.out; omega
      obtain rfl : k = n := by omega
      rw [List.take_of_length_le (by omega)] at hown
      have hP2 := hP1.kept hU (by simp) (by simp)
      have p0 := hP2.cell
      have pf := hP2.free
      go_wp2
      go_ret
      have hpo : Off p rd bf d (some ⟨g, 0, none⟩) := ho.step hi1 hpl
      have hs1 : w.heap.size ≤ w1.heap.size := hu1.size
      have hne : p ∉ bk av := fun hp => by
        rcases hI p hp with h | h
        · simp at h
        · omega
      have hsc := (Upd.refl [p] wr).setCell (p := ⟨p, 0, none⟩) (Value.slice av k c) (by simp)
      refine ⟨rfl, av, c, some ⟨g, 0, none⟩, Hold.stored hP2.blk hown hne, (hR1.kept hU (by simp)).keptK hsc hpo, ?_, hI.le hs1, hi1, fun y hy hy' => ?_⟩
      · exact ((hu1.mono (fun y hy => .inl (List.mem_cons_of_mem _ hy))).trans hU (fun _ h => by simp at h)).setCell _ (by simp)
      · have hyl : w1.heap.size ≤ y := by
          rcases hI y hy with h | h
          · simp at h
          · exact h
        have hl1 := hR1.ltr
        have hl2 := hR1.ltb
        simp [rdF] at hy'
        rcases hy' with h | h | h <;> omega
end Go.Proofs.YtfbohkbpgfnceaaGreatDoor
