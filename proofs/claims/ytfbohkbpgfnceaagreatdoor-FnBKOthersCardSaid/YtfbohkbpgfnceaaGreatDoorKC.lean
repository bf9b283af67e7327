/- How a row becomes a number of four words, and back; an address of 16 bytes back. -/
import Derived.Test.YtfbohkbpgfnceaaGreatDoorMD
import Derived.StillTailTactics
namespace Go.Proofs.YtfbohkbpgfnceaaGreatDoor
set_option linter.unusedVariables false
set_option linter.unusedSimpArgs false
open Go Go.RowKit
set_option maxRecDepth 100000 in
set_option maxHeartbeats 1000000 in
theorem in_i256 (r : R4) (w : World) : Calls Tryz.prog 48 #[r.agg] w fun e w' => e = .returned (.agg r.cells.toArray) ∧ Upd [] w w' := by
  obtain ⟨k1, u1, s1⟩ := alloc_facts w (Obj.cells #[.int .u64 r.a, .int .u64 r.b, .int .u64 r.c, .int .u64 r.d] 67)
  obtain ⟨k2, u2, s2⟩ := alloc_facts (w.alloc (Obj.cells #[.int .u64 r.a, .int .u64 r.b, .int .u64 r.c, .int .u64 r.d] 67)) (Obj.cells #[.int .u64 0, .int .u64 0, .int .u64 0, .int .u64 0] 156)
  have k1' := u2.at k1 (by simp)
  have r1 := rangeAt_blk (cs := [.int .u64 r.a, .int .u64 r.b, .int .u64 r.c, .int .u64 r.d]) k1'
  have hl1 := lt_of_block k1'
  rw [s1] at k2
  have u12 := u1.trans u2 (fun _ h => .inl h)
  have hlo := low_of r
  have hhi := high_of r
  simp only [R4.agg] at hlo hhi ⊢
  go_enter Tryz.func48, Tryz.ntmps48
  go_wp2
  generalize (w.alloc (Obj.cells #[.int .u64 r.a, .int .u64 r.b, .int .u64 r.c, .int .u64 r.d] 67)).alloc (Obj.cells #[.int .u64 0, .int .u64 0, .int .u64 0, .int .u64 0] 156) = W at *
  refine wp_region_split (S := Upd [] W) [(true, 0), (true, 2)] [1] [3, 4, 5] (by kernel_rfl) (by kernel_rfl) (fun _ _ d _ _ h => by cases d <;> exact h) ((Upd.refl _ _).drew) ?_
  simp only [readsAt, opersAt, Option.map_some, List.filterMap_cons, List.filterMap_nil, List.getElem?_toArray, List.getElem?_cons_succ, List.getElem?_cons_zero]
  refine ⟨_, yieldsIf_load_mid (by rfl) 67 (.tmp 1) rfl w.heap.size 0 rfl [.int .u64 r.a, .int .u64 r.b, .int .u64 r.c, .int .u64 r.d] _ (fun w' hS => Upd.range hS r1 hl1 (by simp)) Tryz.underlying67 rfl (by kernel_rfl), ?_⟩
  simp only [Act.put, List.setIfInBounds_toArray, List.set_cons_zero, List.set_cons_succ]
  refine ⟨_, yieldsIf_load_mid (by rfl) 67 (.tmp 1) rfl w.heap.size 0 rfl [.int .u64 r.a, .int .u64 r.b, .int .u64 r.c, .int .u64 r.d] _ (fun w' hS => Upd.range hS r1 hl1 (by simp)) Tryz.underlying67 rfl (by kernel_rfl), ?_⟩
  simp only [Act.put, List.setIfInBounds_toArray, List.set_cons_zero, List.set_cons_succ]
  intro L0 hL0
  rw [if_pos (by rfl)]
  go_simp; refine (hlo _).mono ?_; rintro e w1 ⟨rfl, hu1⟩
  refine hL0 _ _ ⟨hu1.ofDrew, ?_⟩
  clear hL0 L0
  try simp only [preThen]
  change wpList _ _ _ [_, _, _] _ _
  have k3 := hu1.ofDrew.at k2 (by simp)
  go_wp2_with (first
    | (go_at_call 49; (refine (hhi _).mono ?_); rintro e w2 ⟨rfl, hu2⟩; have k4 := hu2.at k3 (by simp))
    | ((with_reducible show wpList _ _ _ _ _ _); refine wpList_store_blk rfl 156 (.tmp 2) (.tmp 7) rfl (b := w.heap.size + 1) rfl k4 (cs := [.int .u64 r.a, .int .u64 r.b, .int .u64 r.c, .int .u64 r.d]) rfl rfl (by kernel_rfl) (by simp [Value.oneCell']) ?_; intro w4 hb4 hu4; simp only [Act.put]))
  refine bodyPost_ret (v := .agg r.cells.toArray) (results_cell1 Tryz.results48 (b := w.heap.size + 1) rfl (run_loadVar_mid _ (w.heap.size + 1) 0 156 [.int .u64 r.a, .int .u64 r.b, .int .u64 r.c, .int .u64 r.d] _ (rangeAt_blk hb4) Tryz.underlying156 rfl (by kernel_rfl))) rfl ⟨rfl, ?_⟩
  exact ((u12.trans hu1.ofDrew (fun _ h => .inl h)).trans hu2 (fun _ h => .inl h)).trans hu4 (fun y hy => by simp at hy; exact .inr (by omega))
set_option maxRecDepth 100000 in
set_option maxHeartbeats 1000000 in
theorem in_u256 (r : R4) (w : World) : Calls Tryz.prog 77 #[r.agg] w fun e w' => e = .returned (.agg r.cells.toArray) ∧ Upd [] w w' := by
  obtain ⟨k1, u1, s1⟩ := alloc_facts w (Obj.cells #[.int .u64 r.a, .int .u64 r.b, .int .u64 r.c, .int .u64 r.d] 67)
  obtain ⟨k2, u2, s2⟩ := alloc_facts (w.alloc (Obj.cells #[.int .u64 r.a, .int .u64 r.b, .int .u64 r.c, .int .u64 r.d] 67)) (Obj.cells #[.int .u64 0, .int .u64 0, .int .u64 0, .int .u64 0] 244)
  have k1' := u2.at k1 (by simp)
  have r1 := rangeAt_blk (cs := [.int .u64 r.a, .int .u64 r.b, .int .u64 r.c, .int .u64 r.d]) k1'
  have hl1 := lt_of_block k1'
  rw [s1] at k2
  have u12 := u1.trans u2 (fun _ h => .inl h)
  have hlo := low_of r
  have hhi := high_of r
  simp only [R4.agg] at hlo hhi ⊢
  go_enter Tryz.func77, Tryz.ntmps77
  go_wp2
  generalize (w.alloc (Obj.cells #[.int .u64 r.a, .int .u64 r.b, .int .u64 r.c, .int .u64 r.d] 67)).alloc (Obj.cells #[.int .u64 0, .int .u64 0, .int .u64 0, .int .u64 0] 244) = W at *
  refine wp_region_split (S := Upd [] W) [(true, 0), (true, 2)] [1] [3, 4, 5] (by kernel_rfl) (by kernel_rfl) (fun _ _ d _ _ h => by cases d <;> exact h) ((Upd.refl _ _).drew) ?_
  simp only [readsAt, opersAt, Option.map_some, List.filterMap_cons, List.filterMap_nil, List.getElem?_toArray, List.getElem?_cons_succ, List.getElem?_cons_zero]
  refine ⟨_, yieldsIf_load_mid (by rfl) 67 (.tmp 1) rfl w.heap.size 0 rfl [.int .u64 r.a, .int .u64 r.b, .int .u64 r.c, .int .u64 r.d] _ (fun w' hS => Upd.range hS r1 hl1 (by simp)) Tryz.underlying67 rfl (by kernel_rfl), ?_⟩
  simp only [Act.put, List.setIfInBounds_toArray, List.set_cons_zero, List.set_cons_succ]
  refine ⟨_, yieldsIf_load_mid (by rfl) 67 (.tmp 1) rfl w.heap.size 0 rfl [.int .u64 r.a, .int .u64 r.b, .int .u64 r.c, .int .u64 r.d] _ (fun w' hS => Upd.range hS r1 hl1 (by simp)) Tryz.underlying67 rfl (by kernel_rfl), ?_⟩
  simp only [Act.put, List.setIfInBounds_toArray, List.set_cons_zero, List.set_cons_succ]
  intro L0 hL0
  rw [if_pos (by rfl)]
  go_simp; refine (hlo _).mono ?_; rintro e w1 ⟨rfl, hu1⟩
  refine hL0 _ _ ⟨hu1.ofDrew, ?_⟩
  clear hL0 L0
  try simp only [preThen]
  change wpList _ _ _ [_, _, _] _ _
  have k3 := hu1.ofDrew.at k2 (by simp)
  go_wp2_with (first
    | (go_at_call 49; (refine (hhi _).mono ?_); rintro e w2 ⟨rfl, hu2⟩; have k4 := hu2.at k3 (by simp))
    | ((with_reducible show wpList _ _ _ _ _ _); refine wpList_store_blk rfl 244 (.tmp 2) (.tmp 7) rfl (b := w.heap.size + 1) rfl k4 (cs := [.int .u64 r.a, .int .u64 r.b, .int .u64 r.c, .int .u64 r.d]) rfl rfl (by kernel_rfl) (by simp [Value.oneCell']) ?_; intro w4 hb4 hu4; simp only [Act.put]))
  refine bodyPost_ret (v := .agg r.cells.toArray) (results_cell1 Tryz.results77 (b := w.heap.size + 1) rfl (run_loadVar_mid _ (w.heap.size + 1) 0 244 [.int .u64 r.a, .int .u64 r.b, .int .u64 r.c, .int .u64 r.d] _ (rangeAt_blk hb4) Tryz.underlying244 rfl (by kernel_rfl))) rfl ⟨rfl, ?_⟩
  exact ((u12.trans hu1.ofDrew (fun _ h => .inl h)).trans hu2 (fun _ h => .inl h)).trans hu4 (fun y hy => by simp at hy; exact .inr (by omega))
set_option maxRecDepth 100000 in
set_option maxHeartbeats 1000000 in
theorem out_i256 (a b c d : Int) (w : World) : Calls Tryz.prog 50 #[.agg #[.int .u64 a, .int .u64 b, .int .u64 c, .int .u64 d]] w fun e w' => e = .returned (R4.agg ⟨a, b, c, d⟩) ∧ Upd [] w w' := by
  obtain ⟨k1, u1, s1⟩ := alloc_facts w (Obj.cells #[.int .u64 a, .int .u64 b, .int .u64 c, .int .u64 d] 156)
  obtain ⟨k2, u2, s2⟩ := alloc_facts (w.alloc (Obj.cells #[.int .u64 a, .int .u64 b, .int .u64 c, .int .u64 d] 156)) (Obj.cells #[.int .u64 0, .int .u64 0, .int .u64 0, .int .u64 0] 67)
  have rr := rangeAt_blk (cs := [.int .u64 a, .int .u64 b, .int .u64 c, .int .u64 d]) (u2.at k1 (by simp))
  have rA : ((w.alloc (Obj.cells #[.int .u64 a, .int .u64 b, .int .u64 c, .int .u64 d] 156)).alloc (Obj.cells #[.int .u64 0, .int .u64 0, .int .u64 0, .int .u64 0] 67)).rangeAt w.heap.size 0 [.int .u64 a, .int .u64 b] := fun j v hj => by
    refine rr j v ?_
    match j, hj with
    | 0, hj => exact hj
    | 1, hj => exact hj
  have rB : ((w.alloc (Obj.cells #[.int .u64 a, .int .u64 b, .int .u64 c, .int .u64 d] 156)).alloc (Obj.cells #[.int .u64 0, .int .u64 0, .int .u64 0, .int .u64 0] 67)).rangeAt w.heap.size 2 [.int .u64 c, .int .u64 d] := fun j v hj => by
    have := rr (2 + j) v (by
      match j, hj with
      | 0, hj => exact hj
      | 1, hj => exact hj)
    rwa [Nat.zero_add] at this
  rw [s1] at k2
  have hl := wide_of a b c d
  simp only [R4.agg] at hl ⊢
  go_enter Tryz.func50, Tryz.ntmps50
  go_wp2_with (first
    | ((with_reducible show wpList _ _ _ _ _ _); with_reducible refine wpList_load_mid rfl 143 (.tmp 3) rfl w.heap.size 0 rfl [.int .u64 a, .int .u64 b] _ rA Tryz.underlying143 rfl (by kernel_rfl) ?_)
    | ((with_reducible show wpList _ _ _ _ _ _); with_reducible refine wpList_load_mid rfl 143 (.tmp 5) rfl w.heap.size 2 rfl [.int .u64 c, .int .u64 d] _ rB Tryz.underlying143 rfl (by kernel_rfl) ?_)
    | (go_at_call 47; (refine (hl _).mono ?_); rintro e w2 ⟨rfl, hu2⟩; have k3 := hu2.at k2 (by simp))
    | ((with_reducible show wpList _ _ _ _ _ _); refine wpList_store_blk rfl 67 (.tmp 2) (.tmp 7) rfl (b := w.heap.size + 1) rfl k3 (cs := [.int .u64 a, .int .u64 b, .int .u64 c, .int .u64 d]) rfl rfl (by kernel_rfl) (by simp [Value.oneCell']) ?_; intro w4 hb4 hu4; simp only [Act.put]))
  refine bodyPost_ret (results_cell1 Tryz.results50 (b := w.heap.size + 1) rfl (run_loadVar_mid _ (w.heap.size + 1) 0 67 [.int .u64 a, .int .u64 b, .int .u64 c, .int .u64 d] _ (rangeAt_blk hb4) Tryz.underlying67 rfl (by kernel_rfl))) rfl ⟨rfl, ?_⟩
  exact ((u1.trans u2 (fun _ h => .inl h)).trans hu2 (fun _ h => .inl h)).trans hu4 (fun y hy => by simp at hy; exact .inr (by omega))
set_option maxRecDepth 100000 in
set_option maxHeartbeats 1000000 in
theorem out_u256 (a b c d : Int) (w : World) : Calls Tryz.prog 78 #[.agg #[.int .u64 a, .int .u64 b, .int .u64 c, .int .u64 d]] w fun e w' => e = .returned (R4.agg ⟨a, b, c, d⟩) ∧ Upd [] w w' := by
  obtain ⟨k1, u1, s1⟩ := alloc_facts w (Obj.cells #[.int .u64 a, .int .u64 b, .int .u64 c, .int .u64 d] 244)
  obtain ⟨k2, u2, s2⟩ := alloc_facts (w.alloc (Obj.cells #[.int .u64 a, .int .u64 b, .int .u64 c, .int .u64 d] 244)) (Obj.cells #[.int .u64 0, .int .u64 0, .int .u64 0, .int .u64 0] 67)
  have rr := rangeAt_blk (cs := [.int .u64 a, .int .u64 b, .int .u64 c, .int .u64 d]) (u2.at k1 (by simp))
  have rA : ((w.alloc (Obj.cells #[.int .u64 a, .int .u64 b, .int .u64 c, .int .u64 d] 244)).alloc (Obj.cells #[.int .u64 0, .int .u64 0, .int .u64 0, .int .u64 0] 67)).rangeAt w.heap.size 0 [.int .u64 a, .int .u64 b] := fun j v hj => by
    refine rr j v ?_
    match j, hj with
    | 0, hj => exact hj
    | 1, hj => exact hj
  have rB : ((w.alloc (Obj.cells #[.int .u64 a, .int .u64 b, .int .u64 c, .int .u64 d] 244)).alloc (Obj.cells #[.int .u64 0, .int .u64 0, .int .u64 0, .int .u64 0] 67)).rangeAt w.heap.size 2 [.int .u64 c, .int .u64 d] := fun j v hj => by
    have := rr (2 + j) v (by
      match j, hj with
      | 0, hj => exact hj
      | 1, hj => exact hj)
    rwa [Nat.zero_add] at this
  rw [s1] at k2
  have hl := wide_of a b c d
  simp only [R4.agg] at hl ⊢
  go_enter Tryz.func78, Tryz.ntmps78
  go_wp2_with (first
    | ((with_reducible show wpList _ _ _ _ _ _); with_reducible refine wpList_load_mid rfl 143 (.tmp 3) rfl w.heap.size 0 rfl [.int .u64 a, .int .u64 b] _ rA Tryz.underlying143 rfl (by kernel_rfl) ?_)
    | ((with_reducible show wpList _ _ _ _ _ _); with_reducible refine wpList_load_mid rfl 143 (.tmp 5) rfl w.heap.size 2 rfl [.int .u64 c, .int .u64 d] _ rB Tryz.underlying143 rfl (by kernel_rfl) ?_)
    | (go_at_call 47; (refine (hl _).mono ?_); rintro e w2 ⟨rfl, hu2⟩; have k3 := hu2.at k2 (by simp))
    | ((with_reducible show wpList _ _ _ _ _ _); refine wpList_store_blk rfl 67 (.tmp 2) (.tmp 7) rfl (b := w.heap.size + 1) rfl k3 (cs := [.int .u64 a, .int .u64 b, .int .u64 c, .int .u64 d]) rfl rfl (by kernel_rfl) (by simp [Value.oneCell']) ?_; intro w4 hb4 hu4; simp only [Act.put]))
  refine bodyPost_ret (results_cell1 Tryz.results78 (b := w.heap.size + 1) rfl (run_loadVar_mid _ (w.heap.size + 1) 0 67 [.int .u64 a, .int .u64 b, .int .u64 c, .int .u64 d] _ (rangeAt_blk hb4) Tryz.underlying67 rfl (by kernel_rfl))) rfl ⟨rfl, ?_⟩
  exact ((u1.trans u2 (fun _ h => .inl h)).trans hu2 (fun _ h => .inl h)).trans hu4 (fun y hy => by simp at hy; exact .inr (by omega))
theorem or_zero64 (x : Int) (h : 0 ≤ x ∧ x < 256) : bits .or .u64 0 x = x := by
  rw [u64_or 0 x (by decide) (by decide) h.1 (by omega)]
  obtain ⟨n, rfl⟩ := Int.eq_ofNat_of_zero_le h.1
  simp
/-- the number of the first k bytes -/
def psum : List Int → Nat → Int
  | _, 0 => 0
  | [], _ + 1 => 0
  | x :: r, k + 1 => x + 256 * psum r k
set_option maxRecDepth 100000 in
set_option maxHeartbeats 4000000 in
theorem row16 (x0 x1 x2 x3 x4 x5 x6 x7 y0 y1 y2 y3 y4 y5 y6 y7 : Int) (hx : ∀ x ∈ [x0, x1, x2, x3, x4, x5, x6, x7, y0, y1, y2, y3, y4, y5, y6, y7], 0 ≤ x ∧ x < 256) (w : World) :
    Calls Tryz.prog 92 #[.agg (([x0, x1, x2, x3, x4, x5, x6, x7, y0, y1, y2, y3, y4, y5, y6, y7] : List Int).map (Value.int .u8)).toArray] w fun e w' => e = .returned (R4.agg ⟨psum [x0, x1, x2, x3, x4, x5, x6, x7] 8, psum [y0, y1, y2, y3, y4, y5, y6, y7] 8, 0, 0⟩) ∧ Upd [] w w' := by
  simp only [List.mem_cons, List.not_mem_nil, or_false, forall_eq_or_imp, forall_eq] at hx
  obtain ⟨hx0, hx1, hx2, hx3, hx4, hx5, hx6, hx7, hy0, hy1, hy2, hy3, hy4, hy5, hy6, hy7⟩ := hx
  go_enter Tryz.func92, Tryz.ntmps92
  simp only [List.map_cons, List.map_nil]
  go_wp2
  obtain ⟨k1, u1, s1⟩ := alloc_facts w (Obj.cells #[.int .u8 x0, .int .u8 x1, .int .u8 x2, .int .u8 x3, .int .u8 x4, .int .u8 x5, .int .u8 x6, .int .u8 x7, .int .u8 y0, .int .u8 y1, .int .u8 y2, .int .u8 y3, .int .u8 y4, .int .u8 y5, .int .u8 y6, .int .u8 y7] 295)
  obtain ⟨k2, u2, s2⟩ := alloc_facts (w.alloc (Obj.cells #[.int .u8 x0, .int .u8 x1, .int .u8 x2, .int .u8 x3, .int .u8 x4, .int .u8 x5, .int .u8 x6, .int .u8 x7, .int .u8 y0, .int .u8 y1, .int .u8 y2, .int .u8 y3, .int .u8 y4, .int .u8 y5, .int .u8 y6, .int .u8 y7] 295)) (Obj.cells #[.int .u64 0, .int .u64 0, .int .u64 0, .int .u64 0] 67)
  obtain ⟨k3, u3, s3⟩ := alloc_facts ((w.alloc (Obj.cells #[.int .u8 x0, .int .u8 x1, .int .u8 x2, .int .u8 x3, .int .u8 x4, .int .u8 x5, .int .u8 x6, .int .u8 x7, .int .u8 y0, .int .u8 y1, .int .u8 y2, .int .u8 y3, .int .u8 y4, .int .u8 y5, .int .u8 y6, .int .u8 y7] 295)).alloc (Obj.cells #[.int .u64 0, .int .u64 0, .int .u64 0, .int .u64 0] 67)) (Obj.cells #[.int .u64 0, .int .u64 0, .int .u64 0, .int .u64 0] 67)
  generalize ((w.alloc (Obj.cells #[.int .u8 x0, .int .u8 x1, .int .u8 x2, .int .u8 x3, .int .u8 x4, .int .u8 x5, .int .u8 x6, .int .u8 x7, .int .u8 y0, .int .u8 y1, .int .u8 y2, .int .u8 y3, .int .u8 y4, .int .u8 y5, .int .u8 y6, .int .u8 y7] 295)).alloc (Obj.cells #[.int .u64 0, .int .u64 0, .int .u64 0, .int .u64 0] 67)).alloc (Obj.cells #[.int .u64 0, .int .u64 0, .int .u64 0, .int .u64 0] 67) = W3 at *
  generalize (w.alloc (Obj.cells #[.int .u8 x0, .int .u8 x1, .int .u8 x2, .int .u8 x3, .int .u8 x4, .int .u8 x5, .int .u8 x6, .int .u8 x7, .int .u8 y0, .int .u8 y1, .int .u8 y2, .int .u8 y3, .int .u8 y4, .int .u8 y5, .int .u8 y6, .int .u8 y7] 295)).alloc (Obj.cells #[.int .u64 0, .int .u64 0, .int .u64 0, .int .u64 0] 67) = W2 at *
  generalize w.alloc (Obj.cells #[.int .u8 x0, .int .u8 x1, .int .u8 x2, .int .u8 x3, .int .u8 x4, .int .u8 x5, .int .u8 x6, .int .u8 x7, .int .u8 y0, .int .u8 y1, .int .u8 y2, .int .u8 y3, .int .u8 y4, .int .u8 y5, .int .u8 y6, .int .u8 y7] 295) = W1 at *
  rw [s1] at k2 s2
  rw [s2] at k3 s3
  have b1 := u3.at k2 (by simp)
  have hU0 := (u1.trans u2 (fun _ h => .inl h)).trans u3 (fun _ h => .inl h)
  clear u1 u2 u3 k1 k2 s1 s2
  go_loopw [7] (fun i wr => ∃ k : Nat, k ≤ 16 ∧ i = .int .i64 k ∧ wr.heap[w.heap.size + 1]? = some (.cells #[.int .u64 0, .int .u64 0, .int .u64 0, .int .u64 0] 67 (0, 0)) ∧
      wr.heap[w.heap.size + 1 + 1]? = some (.cells #[.int .u64 (psum [x0, x1, x2, x3, x4, x5, x6, x7] (min k 8)), .int .u64 (psum [y0, y1, y2, y3, y4, y5, y6, y7] (k - 8)), .int .u64 0, .int .u64 0] 67 (0, 0)) ∧ Upd [] w wr)
    (fun i _ => 16 - (intOf i).toNat)
  case atStart => exact ⟨0, Nat.zero_le _, rfl, b1, by simpa [psum] using k3, hU0⟩
  case round =>
    obtain ⟨k, hk, rfl, h1, h2, hU⟩ := hrel
    by_cases hlt : k < 16
    · have hl2 := lt_of_block h2
      have f2 : ∀ j, wr.frozen? ⟨w.heap.size + 1 + 1, j, none⟩ = false := fun j => by simp [World.frozen?, h2]
      have hcase : k = 0 ∨ k = 1 ∨ k = 2 ∨ k = 3 ∨ k = 4 ∨ k = 5 ∨ k = 6 ∨ k = 7 ∨ k = 8 ∨ k = 9 ∨ k = 10 ∨ k = 11 ∨ k = 12 ∨ k = 13 ∨ k = 14 ∨ k = 15 := by omega
      rcases hcase with rfl | rfl | rfl | rfl | rfl | rfl | rfl | rfl | rfl | rfl | rfl | rfl | rfl | rfl | rfl | rfl
      · have h2' : wr.heap[w.heap.size + 1 + 1]? = some (.cells #[.int .u64 (psum [x0, x1, x2, x3, x4, x5, x6, x7] 0), .int .u64 (psum [y0, y1, y2, y3, y4, y5, y6, y7] 0), .int .u64 0, .int .u64 0] 67 (0, 0)) := h2
        have hix : (Instr.index 295 (.agg #[.int .u8 x0, .int .u8 x1, .int .u8 x2, .int .u8 x3, .int .u8 x4, .int .u8 x5, .int .u8 x6, .int .u8 x7, .int .u8 y0, .int .u8 y1, .int .u8 y2, .int .u8 y3, .int .u8 y4, .int .u8 y5, .int .u8 y6, .int .u8 y7]) (.int .i64 0)).run Tryz.prog wr = .ok (.int .u8 x0) wr := by kernel_rfl
        obtain ⟨L, hL⟩ : ∃ L, L = psum [x0, x1, x2, x3, x4, x5, x6, x7] 0 := ⟨_, rfl⟩
        have c0 : wr.cell? ⟨w.heap.size + 1 + 1, 0, none⟩ = some (.int .u64 L) := by rw [hL]; exact (cellAt h2' 0).trans rfl
        have f0 := f2 0
        have e1 : IntKind.u64.wrap x0 = x0 := by rw [IntKind.wrap_u64]; omega
        have hLr : L = 0 := by rw [hL]; rfl
        obtain ⟨R, hR⟩ : ∃ R, R = psum [x0, x1, x2, x3, x4, x5, x6, x7] 1 := ⟨_, rfl⟩
        have hor : bits .or .u64 L (x0) = R := by
          rw [hLr, hR]
          rw [or_zero64 _ hx0]
          simp only [psum]
          omega
        have hn := heap_setCell_same wr (w.heap.size + 1 + 1) 0 _ _ (.int .u64 R) h2'
        rw [hR] at hn
        have hw0 : IntKind.i64.wrap 0 = 0 := IntWalk.i64_in _ (by omega)
        have hw1 : IntKind.i64.wrap 0 = 0 := IntWalk.i64_in _ (by omega)
        have hw2 : IntKind.i64.wrap 0 = 0 := IntWalk.i64_in _ (by omega)
        have HN := Lib.hid hn
        have HR := Lib.hid hR
        clear hL hLr hn hR h2 h2' f2
        go_wp2
        go_still_tail 12, (by kernel_rfl)
        change wpList _ _ _ _ _ wr.drew
        have c1 : wr.drew.cell? ⟨w.heap.size + 1 + 1, 0, none⟩ = some (.int .u64 L) := c0
        have f1 : wr.drew.frozen? ⟨w.heap.size + 1 + 1, 0, none⟩ = false := f0
        go_wp2
        have hsx : ∀ v : Value, Upd [] w (wr.setCell ⟨w.heap.size + 1 + 1, 0, none⟩ v).drew := fun v => (hU.setCell v (.inr (by show w.heap.size ≤ w.heap.size + 1 + 1; omega))).drew
        go_roundw
        case rel =>
          refine ⟨1, by omega, by go_num, ?_, ?_, hsx _⟩
          · show (wr.setCell _ _).heap[_]? = _
            rw [heap_setCell_other _ _ _ _ (by show ¬ w.heap.size + 1 = w.heap.size + 1 + 1; omega)]; exact h1
          · show (wr.setCell _ _).heap[_]? = _
            rw [HR.out]; exact HN.out
        case measure => simp [intOf]
      · have h2' : wr.heap[w.heap.size + 1 + 1]? = some (.cells #[.int .u64 (psum [x0, x1, x2, x3, x4, x5, x6, x7] 1), .int .u64 (psum [y0, y1, y2, y3, y4, y5, y6, y7] 0), .int .u64 0, .int .u64 0] 67 (0, 0)) := h2
        have hix : (Instr.index 295 (.agg #[.int .u8 x0, .int .u8 x1, .int .u8 x2, .int .u8 x3, .int .u8 x4, .int .u8 x5, .int .u8 x6, .int .u8 x7, .int .u8 y0, .int .u8 y1, .int .u8 y2, .int .u8 y3, .int .u8 y4, .int .u8 y5, .int .u8 y6, .int .u8 y7]) (.int .i64 1)).run Tryz.prog wr = .ok (.int .u8 x1) wr := by kernel_rfl
        obtain ⟨L, hL⟩ : ∃ L, L = psum [x0, x1, x2, x3, x4, x5, x6, x7] 1 := ⟨_, rfl⟩
        have c0 : wr.cell? ⟨w.heap.size + 1 + 1, 0, none⟩ = some (.int .u64 L) := by rw [hL]; exact (cellAt h2' 0).trans rfl
        have f0 := f2 0
        have e1 : IntKind.u64.wrap x1 = x1 := by rw [IntKind.wrap_u64]; omega
        have e2 : IntKind.u64.wrap (x1 * 256) = x1 * 256 := by rw [IntKind.wrap_u64]; omega
        have hLr : L = (x0 + 256 * 0) := by rw [hL]; simp only [psum]
        obtain ⟨R, hR⟩ : ∃ R, R = psum [x0, x1, x2, x3, x4, x5, x6, x7] 2 := ⟨_, rfl⟩
        have hor : bits .or .u64 L (x1 * 256) = R := by
          rw [hLr, hR]
          simp (disch := omega) only [u64_or8, psum]
          omega
        have hn := heap_setCell_same wr (w.heap.size + 1 + 1) 0 _ _ (.int .u64 R) h2'
        rw [hR] at hn
        have hw0 : IntKind.i64.wrap 0 = 0 := IntWalk.i64_in _ (by omega)
        have hw1 : IntKind.i64.wrap 1 = 1 := IntWalk.i64_in _ (by omega)
        have hw2 : IntKind.i64.wrap 8 = 8 := IntWalk.i64_in _ (by omega)
        have HN := Lib.hid hn
        have HR := Lib.hid hR
        clear hL hLr hn hR h2 h2' f2
        go_wp2
        go_still_tail 12, (by kernel_rfl)
        change wpList _ _ _ _ _ wr.drew
        have c1 : wr.drew.cell? ⟨w.heap.size + 1 + 1, 0, none⟩ = some (.int .u64 L) := c0
        have f1 : wr.drew.frozen? ⟨w.heap.size + 1 + 1, 0, none⟩ = false := f0
        go_wp2
        have hsx : ∀ v : Value, Upd [] w (wr.setCell ⟨w.heap.size + 1 + 1, 0, none⟩ v).drew := fun v => (hU.setCell v (.inr (by show w.heap.size ≤ w.heap.size + 1 + 1; omega))).drew
        go_roundw
        case rel =>
          refine ⟨2, by omega, by go_num, ?_, ?_, hsx _⟩
          · show (wr.setCell _ _).heap[_]? = _
            rw [heap_setCell_other _ _ _ _ (by show ¬ w.heap.size + 1 = w.heap.size + 1 + 1; omega)]; exact h1
          · show (wr.setCell _ _).heap[_]? = _
            rw [HR.out]; exact HN.out
        case measure => simp [intOf]
      · have h2' : wr.heap[w.heap.size + 1 + 1]? = some (.cells #[.int .u64 (psum [x0, x1, x2, x3, x4, x5, x6, x7] 2), .int .u64 (psum [y0, y1, y2, y3, y4, y5, y6, y7] 0), .int .u64 0, .int .u64 0] 67 (0, 0)) := h2
        have hix : (Instr.index 295 (.agg #[.int .u8 x0, .int .u8 x1, .int .u8 x2, .int .u8 x3, .int .u8 x4, .int .u8 x5, .int .u8 x6, .int .u8 x7, .int .u8 y0, .int .u8 y1, .int .u8 y2, .int .u8 y3, .int .u8 y4, .int .u8 y5, .int .u8 y6, .int .u8 y7]) (.int .i64 2)).run Tryz.prog wr = .ok (.int .u8 x2) wr := by kernel_rfl
        obtain ⟨L, hL⟩ : ∃ L, L = psum [x0, x1, x2, x3, x4, x5, x6, x7] 2 := ⟨_, rfl⟩
        have c0 : wr.cell? ⟨w.heap.size + 1 + 1, 0, none⟩ = some (.int .u64 L) := by rw [hL]; exact (cellAt h2' 0).trans rfl
        have f0 := f2 0
        have e1 : IntKind.u64.wrap x2 = x2 := by rw [IntKind.wrap_u64]; omega
        have e2 : IntKind.u64.wrap (x2 * 65536) = x2 * 65536 := by rw [IntKind.wrap_u64]; omega
        have hLr : L = (x0 + 256 * (x1 + 256 * 0)) := by rw [hL]; simp only [psum]
        obtain ⟨R, hR⟩ : ∃ R, R = psum [x0, x1, x2, x3, x4, x5, x6, x7] 3 := ⟨_, rfl⟩
        have hor : bits .or .u64 L (x2 * 65536) = R := by
          rw [hLr, hR]
          simp (disch := omega) only [u64_or16, psum]
          omega
        have hn := heap_setCell_same wr (w.heap.size + 1 + 1) 0 _ _ (.int .u64 R) h2'
        rw [hR] at hn
        have hw0 : IntKind.i64.wrap 0 = 0 := IntWalk.i64_in _ (by omega)
        have hw1 : IntKind.i64.wrap 2 = 2 := IntWalk.i64_in _ (by omega)
        have hw2 : IntKind.i64.wrap 16 = 16 := IntWalk.i64_in _ (by omega)
        have HN := Lib.hid hn
        have HR := Lib.hid hR
        clear hL hLr hn hR h2 h2' f2
        go_wp2
        go_still_tail 12, (by kernel_rfl)
        change wpList _ _ _ _ _ wr.drew
        have c1 : wr.drew.cell? ⟨w.heap.size + 1 + 1, 0, none⟩ = some (.int .u64 L) := c0
        have f1 : wr.drew.frozen? ⟨w.heap.size + 1 + 1, 0, none⟩ = false := f0
        go_wp2
        have hsx : ∀ v : Value, Upd [] w (wr.setCell ⟨w.heap.size + 1 + 1, 0, none⟩ v).drew := fun v => (hU.setCell v (.inr (by show w.heap.size ≤ w.heap.size + 1 + 1; omega))).drew
        go_roundw
        case rel =>
          refine ⟨3, by omega, by go_num, ?_, ?_, hsx _⟩
          · show (wr.setCell _ _).heap[_]? = _
            rw [heap_setCell_other _ _ _ _ (by show ¬ w.heap.size + 1 = w.heap.size + 1 + 1; omega)]; exact h1
          · show (wr.setCell _ _).heap[_]? = _
            rw [HR.out]; exact HN.out
        case measure => simp [intOf]
      · have h2' : wr.heap[w.heap.size + 1 + 1]? = some (.cells #[.int .u64 (psum [x0, x1, x2, x3, x4, x5, x6, x7] 3), .int .u64 (psum [y0, y1, y2, y3, y4, y5, y6, y7] 0), .int .u64 0, .int .u64 0] 67 (0, 0)) := h2
        have hix : (Instr.index 295 (.agg #[.int .u8 x0, .int .u8 x1, .int .u8 x2, .int .u8 x3, .int .u8 x4, .int .u8 x5, .int .u8 x6, .int .u8 x7, .int .u8 y0, .int .u8 y1, .int .u8 y2, .int .u8 y3, .int .u8 y4, .int .u8 y5, .int .u8 y6, .int .u8 y7]) (.int .i64 3)).run Tryz.prog wr = .ok (.int .u8 x3) wr := by kernel_rfl
        obtain ⟨L, hL⟩ : ∃ L, L = psum [x0, x1, x2, x3, x4, x5, x6, x7] 3 := ⟨_, rfl⟩
        have c0 : wr.cell? ⟨w.heap.size + 1 + 1, 0, none⟩ = some (.int .u64 L) := by rw [hL]; exact (cellAt h2' 0).trans rfl
        have f0 := f2 0
        have e1 : IntKind.u64.wrap x3 = x3 := by rw [IntKind.wrap_u64]; omega
        have e2 : IntKind.u64.wrap (x3 * 16777216) = x3 * 16777216 := by rw [IntKind.wrap_u64]; omega
        have hLr : L = (x0 + 256 * (x1 + 256 * (x2 + 256 * 0))) := by rw [hL]; simp only [psum]
        obtain ⟨R, hR⟩ : ∃ R, R = psum [x0, x1, x2, x3, x4, x5, x6, x7] 4 := ⟨_, rfl⟩
        have hor : bits .or .u64 L (x3 * 16777216) = R := by
          rw [hLr, hR]
          simp (disch := omega) only [u64_or24, psum]
          omega
        have hn := heap_setCell_same wr (w.heap.size + 1 + 1) 0 _ _ (.int .u64 R) h2'
        rw [hR] at hn
        have hw0 : IntKind.i64.wrap 0 = 0 := IntWalk.i64_in _ (by omega)
        have hw1 : IntKind.i64.wrap 3 = 3 := IntWalk.i64_in _ (by omega)
        have hw2 : IntKind.i64.wrap 24 = 24 := IntWalk.i64_in _ (by omega)
        have HN := Lib.hid hn
        have HR := Lib.hid hR
        clear hL hLr hn hR h2 h2' f2
        go_wp2
        go_still_tail 12, (by kernel_rfl)
        change wpList _ _ _ _ _ wr.drew
        have c1 : wr.drew.cell? ⟨w.heap.size + 1 + 1, 0, none⟩ = some (.int .u64 L) := c0
        have f1 : wr.drew.frozen? ⟨w.heap.size + 1 + 1, 0, none⟩ = false := f0
        go_wp2
        have hsx : ∀ v : Value, Upd [] w (wr.setCell ⟨w.heap.size + 1 + 1, 0, none⟩ v).drew := fun v => (hU.setCell v (.inr (by show w.heap.size ≤ w.heap.size + 1 + 1; omega))).drew
        go_roundw
        case rel =>
          refine ⟨4, by omega, by go_num, ?_, ?_, hsx _⟩
          · show (wr.setCell _ _).heap[_]? = _
            rw [heap_setCell_other _ _ _ _ (by show ¬ w.heap.size + 1 = w.heap.size + 1 + 1; omega)]; exact h1
          · show (wr.setCell _ _).heap[_]? = _
            rw [HR.out]; exact HN.out
        case measure => simp [intOf]
      · have h2' : wr.heap[w.heap.size + 1 + 1]? = some (.cells #[.int .u64 (psum [x0, x1, x2, x3, x4, x5, x6, x7] 4), .int .u64 (psum [y0, y1, y2, y3, y4, y5, y6, y7] 0), .int .u64 0, .int .u64 0] 67 (0, 0)) := h2
        have hix : (Instr.index 295 (.agg #[.int .u8 x0, .int .u8 x1, .int .u8 x2, .int .u8 x3, .int .u8 x4, .int .u8 x5, .int .u8 x6, .int .u8 x7, .int .u8 y0, .int .u8 y1, .int .u8 y2, .int .u8 y3, .int .u8 y4, .int .u8 y5, .int .u8 y6, .int .u8 y7]) (.int .i64 4)).run Tryz.prog wr = .ok (.int .u8 x4) wr := by kernel_rfl
        obtain ⟨L, hL⟩ : ∃ L, L = psum [x0, x1, x2, x3, x4, x5, x6, x7] 4 := ⟨_, rfl⟩
        have c0 : wr.cell? ⟨w.heap.size + 1 + 1, 0, none⟩ = some (.int .u64 L) := by rw [hL]; exact (cellAt h2' 0).trans rfl
        have f0 := f2 0
        have e1 : IntKind.u64.wrap x4 = x4 := by rw [IntKind.wrap_u64]; omega
        have e2 : IntKind.u64.wrap (x4 * 4294967296) = x4 * 4294967296 := by rw [IntKind.wrap_u64]; omega
        have hLr : L = (x0 + 256 * (x1 + 256 * (x2 + 256 * (x3 + 256 * 0)))) := by rw [hL]; simp only [psum]
        obtain ⟨R, hR⟩ : ∃ R, R = psum [x0, x1, x2, x3, x4, x5, x6, x7] 5 := ⟨_, rfl⟩
        have hor : bits .or .u64 L (x4 * 4294967296) = R := by
          rw [hLr, hR]
          simp (disch := omega) only [u64_or32, psum]
          omega
        have hn := heap_setCell_same wr (w.heap.size + 1 + 1) 0 _ _ (.int .u64 R) h2'
        rw [hR] at hn
        have hw0 : IntKind.i64.wrap 0 = 0 := IntWalk.i64_in _ (by omega)
        have hw1 : IntKind.i64.wrap 4 = 4 := IntWalk.i64_in _ (by omega)
        have hw2 : IntKind.i64.wrap 32 = 32 := IntWalk.i64_in _ (by omega)
        have HN := Lib.hid hn
        have HR := Lib.hid hR
        clear hL hLr hn hR h2 h2' f2
        go_wp2
        go_still_tail 12, (by kernel_rfl)
        change wpList _ _ _ _ _ wr.drew
        have c1 : wr.drew.cell? ⟨w.heap.size + 1 + 1, 0, none⟩ = some (.int .u64 L) := c0
        have f1 : wr.drew.frozen? ⟨w.heap.size + 1 + 1, 0, none⟩ = false := f0
        go_wp2
        have hsx : ∀ v : Value, Upd [] w (wr.setCell ⟨w.heap.size + 1 + 1, 0, none⟩ v).drew := fun v => (hU.setCell v (.inr (by show w.heap.size ≤ w.heap.size + 1 + 1; omega))).drew
        go_roundw
        case rel =>
          refine ⟨5, by omega, by go_num, ?_, ?_, hsx _⟩
          · show (wr.setCell _ _).heap[_]? = _
            rw [heap_setCell_other _ _ _ _ (by show ¬ w.heap.size + 1 = w.heap.size + 1 + 1; omega)]; exact h1
          · show (wr.setCell _ _).heap[_]? = _
            rw [HR.out]; exact HN.out
        case measure => simp [intOf]
      · have h2' : wr.heap[w.heap.size + 1 + 1]? = some (.cells #[.int .u64 (psum [x0, x1, x2, x3, x4, x5, x6, x7] 5), .int .u64 (psum [y0, y1, y2, y3, y4, y5, y6, y7] 0), .int .u64 0, .int .u64 0] 67 (0, 0)) := h2
        have hix : (Instr.index 295 (.agg #[.int .u8 x0, .int .u8 x1, .int .u8 x2, .int .u8 x3, .int .u8 x4, .int .u8 x5, .int .u8 x6, .int .u8 x7, .int .u8 y0, .int .u8 y1, .int .u8 y2, .int .u8 y3, .int .u8 y4, .int .u8 y5, .int .u8 y6, .int .u8 y7]) (.int .i64 5)).run Tryz.prog wr = .ok (.int .u8 x5) wr := by kernel_rfl
        obtain ⟨L, hL⟩ : ∃ L, L = psum [x0, x1, x2, x3, x4, x5, x6, x7] 5 := ⟨_, rfl⟩
        have c0 : wr.cell? ⟨w.heap.size + 1 + 1, 0, none⟩ = some (.int .u64 L) := by rw [hL]; exact (cellAt h2' 0).trans rfl
        have f0 := f2 0
        have e1 : IntKind.u64.wrap x5 = x5 := by rw [IntKind.wrap_u64]; omega
        have e2 : IntKind.u64.wrap (x5 * 1099511627776) = x5 * 1099511627776 := by rw [IntKind.wrap_u64]; omega
        have hLr : L = (x0 + 256 * (x1 + 256 * (x2 + 256 * (x3 + 256 * (x4 + 256 * 0))))) := by rw [hL]; simp only [psum]
        obtain ⟨R, hR⟩ : ∃ R, R = psum [x0, x1, x2, x3, x4, x5, x6, x7] 6 := ⟨_, rfl⟩
        have hor : bits .or .u64 L (x5 * 1099511627776) = R := by
          rw [hLr, hR]
          simp (disch := omega) only [u64_or40, psum]
          omega
        have hn := heap_setCell_same wr (w.heap.size + 1 + 1) 0 _ _ (.int .u64 R) h2'
        rw [hR] at hn
        have hw0 : IntKind.i64.wrap 0 = 0 := IntWalk.i64_in _ (by omega)
        have hw1 : IntKind.i64.wrap 5 = 5 := IntWalk.i64_in _ (by omega)
        have hw2 : IntKind.i64.wrap 40 = 40 := IntWalk.i64_in _ (by omega)
        have HN := Lib.hid hn
        have HR := Lib.hid hR
        clear hL hLr hn hR h2 h2' f2
        go_wp2
        go_still_tail 12, (by kernel_rfl)
        change wpList _ _ _ _ _ wr.drew
        have c1 : wr.drew.cell? ⟨w.heap.size + 1 + 1, 0, none⟩ = some (.int .u64 L) := c0
        have f1 : wr.drew.frozen? ⟨w.heap.size + 1 + 1, 0, none⟩ = false := f0
        go_wp2
        have hsx : ∀ v : Value, Upd [] w (wr.setCell ⟨w.heap.size + 1 + 1, 0, none⟩ v).drew := fun v => (hU.setCell v (.inr (by show w.heap.size ≤ w.heap.size + 1 + 1; omega))).drew
        go_roundw
        case rel =>
          refine ⟨6, by omega, by go_num, ?_, ?_, hsx _⟩
          · show (wr.setCell _ _).heap[_]? = _
            rw [heap_setCell_other _ _ _ _ (by show ¬ w.heap.size + 1 = w.heap.size + 1 + 1; omega)]; exact h1
          · show (wr.setCell _ _).heap[_]? = _
            rw [HR.out]; exact HN.out
        case measure => simp [intOf]
      · have h2' : wr.heap[w.heap.size + 1 + 1]? = some (.cells #[.int .u64 (psum [x0, x1, x2, x3, x4, x5, x6, x7] 6), .int .u64 (psum [y0, y1, y2, y3, y4, y5, y6, y7] 0), .int .u64 0, .int .u64 0] 67 (0, 0)) := h2
        have hix : (Instr.index 295 (.agg #[.int .u8 x0, .int .u8 x1, .int .u8 x2, .int .u8 x3, .int .u8 x4, .int .u8 x5, .int .u8 x6, .int .u8 x7, .int .u8 y0, .int .u8 y1, .int .u8 y2, .int .u8 y3, .int .u8 y4, .int .u8 y5, .int .u8 y6, .int .u8 y7]) (.int .i64 6)).run Tryz.prog wr = .ok (.int .u8 x6) wr := by kernel_rfl
        obtain ⟨L, hL⟩ : ∃ L, L = psum [x0, x1, x2, x3, x4, x5, x6, x7] 6 := ⟨_, rfl⟩
        have c0 : wr.cell? ⟨w.heap.size + 1 + 1, 0, none⟩ = some (.int .u64 L) := by rw [hL]; exact (cellAt h2' 0).trans rfl
        have f0 := f2 0
        have e1 : IntKind.u64.wrap x6 = x6 := by rw [IntKind.wrap_u64]; omega
        have e2 : IntKind.u64.wrap (x6 * 281474976710656) = x6 * 281474976710656 := by rw [IntKind.wrap_u64]; omega
        have hLr : L = (x0 + 256 * (x1 + 256 * (x2 + 256 * (x3 + 256 * (x4 + 256 * (x5 + 256 * 0)))))) := by rw [hL]; simp only [psum]
        obtain ⟨R, hR⟩ : ∃ R, R = psum [x0, x1, x2, x3, x4, x5, x6, x7] 7 := ⟨_, rfl⟩
        have hor : bits .or .u64 L (x6 * 281474976710656) = R := by
          rw [hLr, hR]
          simp (disch := omega) only [u64_or48, psum]
          omega
        have hn := heap_setCell_same wr (w.heap.size + 1 + 1) 0 _ _ (.int .u64 R) h2'
        rw [hR] at hn
        have hw0 : IntKind.i64.wrap 0 = 0 := IntWalk.i64_in _ (by omega)
        have hw1 : IntKind.i64.wrap 6 = 6 := IntWalk.i64_in _ (by omega)
        have hw2 : IntKind.i64.wrap 48 = 48 := IntWalk.i64_in _ (by omega)
        have HN := Lib.hid hn
        have HR := Lib.hid hR
        clear hL hLr hn hR h2 h2' f2
        go_wp2
        go_still_tail 12, (by kernel_rfl)
        change wpList _ _ _ _ _ wr.drew
        have c1 : wr.drew.cell? ⟨w.heap.size + 1 + 1, 0, none⟩ = some (.int .u64 L) := c0
        have f1 : wr.drew.frozen? ⟨w.heap.size + 1 + 1, 0, none⟩ = false := f0
        go_wp2
        have hsx : ∀ v : Value, Upd [] w (wr.setCell ⟨w.heap.size + 1 + 1, 0, none⟩ v).drew := fun v => (hU.setCell v (.inr (by show w.heap.size ≤ w.heap.size + 1 + 1; omega))).drew
        go_roundw
        case rel =>
          refine ⟨7, by omega, by go_num, ?_, ?_, hsx _⟩
          · show (wr.setCell _ _).heap[_]? = _
            rw [heap_setCell_other _ _ _ _ (by show ¬ w.heap.size + 1 = w.heap.size + 1 + 1; omega)]; exact h1
          · show (wr.setCell _ _).heap[_]? = _
            rw [HR.out]; exact HN.out
        case measure => simp [intOf]
      · have h2' : wr.heap[w.heap.size + 1 + 1]? = some (.cells #[.int .u64 (psum [x0, x1, x2, x3, x4, x5, x6, x7] 7), .int .u64 (psum [y0, y1, y2, y3, y4, y5, y6, y7] 0), .int .u64 0, .int .u64 0] 67 (0, 0)) := h2
        have hix : (Instr.index 295 (.agg #[.int .u8 x0, .int .u8 x1, .int .u8 x2, .int .u8 x3, .int .u8 x4, .int .u8 x5, .int .u8 x6, .int .u8 x7, .int .u8 y0, .int .u8 y1, .int .u8 y2, .int .u8 y3, .int .u8 y4, .int .u8 y5, .int .u8 y6, .int .u8 y7]) (.int .i64 7)).run Tryz.prog wr = .ok (.int .u8 x7) wr := by kernel_rfl
        obtain ⟨L, hL⟩ : ∃ L, L = psum [x0, x1, x2, x3, x4, x5, x6, x7] 7 := ⟨_, rfl⟩
        have c0 : wr.cell? ⟨w.heap.size + 1 + 1, 0, none⟩ = some (.int .u64 L) := by rw [hL]; exact (cellAt h2' 0).trans rfl
        have f0 := f2 0
        have e1 : IntKind.u64.wrap x7 = x7 := by rw [IntKind.wrap_u64]; omega
        have e2 : IntKind.u64.wrap (x7 * 72057594037927936) = x7 * 72057594037927936 := by rw [IntKind.wrap_u64]; omega
        have hLr : L = (x0 + 256 * (x1 + 256 * (x2 + 256 * (x3 + 256 * (x4 + 256 * (x5 + 256 * (x6 + 256 * 0))))))) := by rw [hL]; simp only [psum]
        obtain ⟨R, hR⟩ : ∃ R, R = psum [x0, x1, x2, x3, x4, x5, x6, x7] 8 := ⟨_, rfl⟩
        have hor : bits .or .u64 L (x7 * 72057594037927936) = R := by
          rw [hLr, hR]
          simp (disch := omega) only [u64_or56, psum]
          omega
        have hn := heap_setCell_same wr (w.heap.size + 1 + 1) 0 _ _ (.int .u64 R) h2'
        rw [hR] at hn
        have hw0 : IntKind.i64.wrap 0 = 0 := IntWalk.i64_in _ (by omega)
        have hw1 : IntKind.i64.wrap 7 = 7 := IntWalk.i64_in _ (by omega)
        have hw2 : IntKind.i64.wrap 56 = 56 := IntWalk.i64_in _ (by omega)
        have HN := Lib.hid hn
        have HR := Lib.hid hR
        clear hL hLr hn hR h2 h2' f2
        go_wp2
        go_still_tail 12, (by kernel_rfl)
        change wpList _ _ _ _ _ wr.drew
        have c1 : wr.drew.cell? ⟨w.heap.size + 1 + 1, 0, none⟩ = some (.int .u64 L) := c0
        have f1 : wr.drew.frozen? ⟨w.heap.size + 1 + 1, 0, none⟩ = false := f0
        go_wp2
        have hsx : ∀ v : Value, Upd [] w (wr.setCell ⟨w.heap.size + 1 + 1, 0, none⟩ v).drew := fun v => (hU.setCell v (.inr (by show w.heap.size ≤ w.heap.size + 1 + 1; omega))).drew
        go_roundw
        case rel =>
          refine ⟨8, by omega, by go_num, ?_, ?_, hsx _⟩
          · show (wr.setCell _ _).heap[_]? = _
            rw [heap_setCell_other _ _ _ _ (by show ¬ w.heap.size + 1 = w.heap.size + 1 + 1; omega)]; exact h1
          · show (wr.setCell _ _).heap[_]? = _
            rw [HR.out]; exact HN.out
        case measure => simp [intOf]
      · have h2' : wr.heap[w.heap.size + 1 + 1]? = some (.cells #[.int .u64 (psum [x0, x1, x2, x3, x4, x5, x6, x7] 8), .int .u64 (psum [y0, y1, y2, y3, y4, y5, y6, y7] 0), .int .u64 0, .int .u64 0] 67 (0, 0)) := h2
        have hix : (Instr.index 295 (.agg #[.int .u8 x0, .int .u8 x1, .int .u8 x2, .int .u8 x3, .int .u8 x4, .int .u8 x5, .int .u8 x6, .int .u8 x7, .int .u8 y0, .int .u8 y1, .int .u8 y2, .int .u8 y3, .int .u8 y4, .int .u8 y5, .int .u8 y6, .int .u8 y7]) (.int .i64 8)).run Tryz.prog wr = .ok (.int .u8 y0) wr := by kernel_rfl
        obtain ⟨L, hL⟩ : ∃ L, L = psum [y0, y1, y2, y3, y4, y5, y6, y7] 0 := ⟨_, rfl⟩
        have c0 : wr.cell? ⟨w.heap.size + 1 + 1, 1, none⟩ = some (.int .u64 L) := by rw [hL]; exact (cellAt h2' 1).trans rfl
        have f0 := f2 1
        have e1 : IntKind.u64.wrap y0 = y0 := by rw [IntKind.wrap_u64]; omega
        have hLr : L = 0 := by rw [hL]; rfl
        obtain ⟨R, hR⟩ : ∃ R, R = psum [y0, y1, y2, y3, y4, y5, y6, y7] 1 := ⟨_, rfl⟩
        have hor : bits .or .u64 L (y0) = R := by
          rw [hLr, hR]
          rw [or_zero64 _ hy0]
          simp only [psum]
          omega
        have hn := heap_setCell_same wr (w.heap.size + 1 + 1) 1 _ _ (.int .u64 R) h2'
        rw [hR] at hn
        have hw0 : IntKind.i64.wrap 1 = 1 := IntWalk.i64_in _ (by omega)
        have hw1 : IntKind.i64.wrap 0 = 0 := IntWalk.i64_in _ (by omega)
        have hw2 : IntKind.i64.wrap 0 = 0 := IntWalk.i64_in _ (by omega)
        have HN := Lib.hid hn
        have HR := Lib.hid hR
        clear hL hLr hn hR h2 h2' f2
        go_wp2
        go_still_tail 12, (by kernel_rfl)
        change wpList _ _ _ _ _ wr.drew
        have c1 : wr.drew.cell? ⟨w.heap.size + 1 + 1, 1, none⟩ = some (.int .u64 L) := c0
        have f1 : wr.drew.frozen? ⟨w.heap.size + 1 + 1, 1, none⟩ = false := f0
        go_wp2
        have hsx : ∀ v : Value, Upd [] w (wr.setCell ⟨w.heap.size + 1 + 1, 1, none⟩ v).drew := fun v => (hU.setCell v (.inr (by show w.heap.size ≤ w.heap.size + 1 + 1; omega))).drew
        go_roundw
        case rel =>
          refine ⟨9, by omega, by go_num, ?_, ?_, hsx _⟩
          · show (wr.setCell _ _).heap[_]? = _
            rw [heap_setCell_other _ _ _ _ (by show ¬ w.heap.size + 1 = w.heap.size + 1 + 1; omega)]; exact h1
          · show (wr.setCell _ _).heap[_]? = _
            rw [HR.out]; exact HN.out
        case measure => simp [intOf]
      · have h2' : wr.heap[w.heap.size + 1 + 1]? = some (.cells #[.int .u64 (psum [x0, x1, x2, x3, x4, x5, x6, x7] 8), .int .u64 (psum [y0, y1, y2, y3, y4, y5, y6, y7] 1), .int .u64 0, .int .u64 0] 67 (0, 0)) := h2
        have hix : (Instr.index 295 (.agg #[.int .u8 x0, .int .u8 x1, .int .u8 x2, .int .u8 x3, .int .u8 x4, .int .u8 x5, .int .u8 x6, .int .u8 x7, .int .u8 y0, .int .u8 y1, .int .u8 y2, .int .u8 y3, .int .u8 y4, .int .u8 y5, .int .u8 y6, .int .u8 y7]) (.int .i64 9)).run Tryz.prog wr = .ok (.int .u8 y1) wr := by kernel_rfl
        obtain ⟨L, hL⟩ : ∃ L, L = psum [y0, y1, y2, y3, y4, y5, y6, y7] 1 := ⟨_, rfl⟩
        have c0 : wr.cell? ⟨w.heap.size + 1 + 1, 1, none⟩ = some (.int .u64 L) := by rw [hL]; exact (cellAt h2' 1).trans rfl
        have f0 := f2 1
        have e1 : IntKind.u64.wrap y1 = y1 := by rw [IntKind.wrap_u64]; omega
        have e2 : IntKind.u64.wrap (y1 * 256) = y1 * 256 := by rw [IntKind.wrap_u64]; omega
        have hLr : L = (y0 + 256 * 0) := by rw [hL]; simp only [psum]
        obtain ⟨R, hR⟩ : ∃ R, R = psum [y0, y1, y2, y3, y4, y5, y6, y7] 2 := ⟨_, rfl⟩
        have hor : bits .or .u64 L (y1 * 256) = R := by
          rw [hLr, hR]
          simp (disch := omega) only [u64_or8, psum]
          omega
        have hn := heap_setCell_same wr (w.heap.size + 1 + 1) 1 _ _ (.int .u64 R) h2'
        rw [hR] at hn
        have hw0 : IntKind.i64.wrap 1 = 1 := IntWalk.i64_in _ (by omega)
        have hw1 : IntKind.i64.wrap 1 = 1 := IntWalk.i64_in _ (by omega)
        have hw2 : IntKind.i64.wrap 8 = 8 := IntWalk.i64_in _ (by omega)
        have HN := Lib.hid hn
        have HR := Lib.hid hR
        clear hL hLr hn hR h2 h2' f2
        go_wp2
        go_still_tail 12, (by kernel_rfl)
        change wpList _ _ _ _ _ wr.drew
        have c1 : wr.drew.cell? ⟨w.heap.size + 1 + 1, 1, none⟩ = some (.int .u64 L) := c0
        have f1 : wr.drew.frozen? ⟨w.heap.size + 1 + 1, 1, none⟩ = false := f0
        go_wp2
        have hsx : ∀ v : Value, Upd [] w (wr.setCell ⟨w.heap.size + 1 + 1, 1, none⟩ v).drew := fun v => (hU.setCell v (.inr (by show w.heap.size ≤ w.heap.size + 1 + 1; omega))).drew
        go_roundw
        case rel =>
          refine ⟨10, by omega, by go_num, ?_, ?_, hsx _⟩
          · show (wr.setCell _ _).heap[_]? = _
            rw [heap_setCell_other _ _ _ _ (by show ¬ w.heap.size + 1 = w.heap.size + 1 + 1; omega)]; exact h1
          · show (wr.setCell _ _).heap[_]? = _
            rw [HR.out]; exact HN.out
        case measure => simp [intOf]
      · have h2' : wr.heap[w.heap.size + 1 + 1]? = some (.cells #[.int .u64 (psum [x0, x1, x2, x3, x4, x5, x6, x7] 8), .int .u64 (psum [y0, y1, y2, y3, y4, y5, y6, y7] 2), .int .u64 0, .int .u64 0] 67 (0, 0)) := h2
        have hix : (Instr.index 295 (.agg #[.int .u8 x0, .int .u8 x1, .int .u8 x2, .int .u8 x3, .int .u8 x4, .int .u8 x5, .int .u8 x6, .int .u8 x7, .int .u8 y0, .int .u8 y1, .int .u8 y2, .int .u8 y3, .int .u8 y4, .int .u8 y5, .int .u8 y6, .int .u8 y7]) (.int .i64 10)).run Tryz.prog wr = .ok (.int .u8 y2) wr := by kernel_rfl
        obtain ⟨L, hL⟩ : ∃ L, L = psum [y0, y1, y2, y3, y4, y5, y6, y7] 2 := ⟨_, rfl⟩
        have c0 : wr.cell? ⟨w.heap.size + 1 + 1, 1, none⟩ = some (.int .u64 L) := by rw [hL]; exact (cellAt h2' 1).trans rfl
        have f0 := f2 1
        have e1 : IntKind.u64.wrap y2 = y2 := by rw [IntKind.wrap_u64]; omega
        have e2 : IntKind.u64.wrap (y2 * 65536) = y2 * 65536 := by rw [IntKind.wrap_u64]; omega
        have hLr : L = (y0 + 256 * (y1 + 256 * 0)) := by rw [hL]; simp only [psum]
        obtain ⟨R, hR⟩ : ∃ R, R = psum [y0, y1, y2, y3, y4, y5, y6, y7] 3 := ⟨_, rfl⟩
        have hor : bits .or .u64 L (y2 * 65536) = R := by
          rw [hLr, hR]
          simp (disch := omega) only [u64_or16, psum]
          omega
        have hn := heap_setCell_same wr (w.heap.size + 1 + 1) 1 _ _ (.int .u64 R) h2'
        rw [hR] at hn
        have hw0 : IntKind.i64.wrap 1 = 1 := IntWalk.i64_in _ (by omega)
        have hw1 : IntKind.i64.wrap 2 = 2 := IntWalk.i64_in _ (by omega)
        have hw2 : IntKind.i64.wrap 16 = 16 := IntWalk.i64_in _ (by omega)
        have HN := Lib.hid hn
        have HR := Lib.hid hR
        clear hL hLr hn hR h2 h2' f2
        go_wp2
        go_still_tail 12, (by kernel_rfl)
        change wpList _ _ _ _ _ wr.drew
        have c1 : wr.drew.cell? ⟨w.heap.size + 1 + 1, 1, none⟩ = some (.int .u64 L) := c0
        have f1 : wr.drew.frozen? ⟨w.heap.size + 1 + 1, 1, none⟩ = false := f0
        go_wp2
        have hsx : ∀ v : Value, Upd [] w (wr.setCell ⟨w.heap.size + 1 + 1, 1, none⟩ v).drew := fun v => (hU.setCell v (.inr (by show w.heap.size ≤ w.heap.size + 1 + 1; omega))).drew
        go_roundw
        case rel =>
          refine ⟨11, by omega, by go_num, ?_, ?_, hsx _⟩
          · show (wr.setCell _ _).heap[_]? = _
            rw [heap_setCell_other _ _ _ _ (by show ¬ w.heap.size + 1 = w.heap.size + 1 + 1; omega)]; exact h1
          · show (wr.setCell _ _).heap[_]? = _
            rw [HR.out]; exact HN.out
        case measure => simp [intOf]
      · have h2' : wr.heap[w.heap.size + 1 + 1]? = some (.cells #[.int .u64 (psum [x0, x1, x2, x3, x4, x5, x6, x7] 8), .int .u64 (psum [y0, y1, y2, y3, y4, y5, y6, y7] 3), .int .u64 0, .int .u64 0] 67 (0, 0)) := h2
        have hix : (Instr.index 295 (.agg #[.int .u8 x0, .int .u8 x1, .int .u8 x2, .int .u8 x3, .int .u8 x4, .int .u8 x5, .int .u8 x6, .int .u8 x7, .int .u8 y0, .int .u8 y1, .int .u8 y2, .int .u8 y3, .int .u8 y4, .int .u8 y5, .int .u8 y6, .int .u8 y7]) (.int .i64 11)).run Tryz.prog wr = .ok (.int .u8 y3) wr := by kernel_rfl
        obtain ⟨L, hL⟩ : ∃ L, L = psum [y0, y1, y2, y3, y4, y5, y6, y7] 3 := ⟨_, rfl⟩
        have c0 : wr.cell? ⟨w.heap.size + 1 + 1, 1, none⟩ = some (.int .u64 L) := by rw [hL]; exact (cellAt h2' 1).trans rfl
        have f0 := f2 1
        have e1 : IntKind.u64.wrap y3 = y3 := by rw [IntKind.wrap_u64]; omega
        have e2 : IntKind.u64.wrap (y3 * 16777216) = y3 * 16777216 := by rw [IntKind.wrap_u64]; omega
        have hLr : L = (y0 + 256 * (y1 + 256 * (y2 + 256 * 0))) := by rw [hL]; simp only [psum]
        obtain ⟨R, hR⟩ : ∃ R, R = psum [y0, y1, y2, y3, y4, y5, y6, y7] 4 := ⟨_, rfl⟩
        have hor : bits .or .u64 L (y3 * 16777216) = R := by
          rw [hLr, hR]
          simp (disch := omega) only [u64_or24, psum]
          omega
        have hn := heap_setCell_same wr (w.heap.size + 1 + 1) 1 _ _ (.int .u64 R) h2'
        rw [hR] at hn
        have hw0 : IntKind.i64.wrap 1 = 1 := IntWalk.i64_in _ (by omega)
        have hw1 : IntKind.i64.wrap 3 = 3 := IntWalk.i64_in _ (by omega)
        have hw2 : IntKind.i64.wrap 24 = 24 := IntWalk.i64_in _ (by omega)
        have HN := Lib.hid hn
        have HR := Lib.hid hR
        clear hL hLr hn hR h2 h2' f2
        go_wp2
        go_still_tail 12, (by kernel_rfl)
        change wpList _ _ _ _ _ wr.drew
        have c1 : wr.drew.cell? ⟨w.heap.size + 1 + 1, 1, none⟩ = some (.int .u64 L) := c0
        have f1 : wr.drew.frozen? ⟨w.heap.size + 1 + 1, 1, none⟩ = false := f0
        go_wp2
        have hsx : ∀ v : Value, Upd [] w (wr.setCell ⟨w.heap.size + 1 + 1, 1, none⟩ v).drew := fun v => (hU.setCell v (.inr (by show w.heap.size ≤ w.heap.size + 1 + 1; omega))).drew
        go_roundw
        case rel =>
          refine ⟨12, by omega, by go_num, ?_, ?_, hsx _⟩
          · show (wr.setCell _ _).heap[_]? = _
            rw [heap_setCell_other _ _ _ _ (by show ¬ w.heap.size + 1 = w.heap.size + 1 + 1; omega)]; exact h1
          · show (wr.setCell _ _).heap[_]? = _
            rw [HR.out]; exact HN.out
        case measure => simp [intOf]
      · have h2' : wr.heap[w.heap.size + 1 + 1]? = some (.cells #[.int .u64 (psum [x0, x1, x2, x3, x4, x5, x6, x7] 8), .int .u64 (psum [y0, y1, y2, y3, y4, y5, y6, y7] 4), .int .u64 0, .int .u64 0] 67 (0, 0)) := h2
        have hix : (Instr.index 295 (.agg #[.int .u8 x0, .int .u8 x1, .int .u8 x2, .int .u8 x3, .int .u8 x4, .int .u8 x5, .int .u8 x6, .int .u8 x7, .int .u8 y0, .int .u8 y1, .int .u8 y2, .int .u8 y3, .int .u8 y4, .int .u8 y5, .int .u8 y6, .int .u8 y7]) (.int .i64 12)).run Tryz.prog wr = .ok (.int .u8 y4) wr := by kernel_rfl
        obtain ⟨L, hL⟩ : ∃ L, L = psum [y0, y1, y2, y3, y4, y5, y6, y7] 4 := ⟨_, rfl⟩
        have c0 : wr.cell? ⟨w.heap.size + 1 + 1, 1, none⟩ = some (.int .u64 L) := by rw [hL]; exact (cellAt h2' 1).trans rfl
        have f0 := f2 1
        have e1 : IntKind.u64.wrap y4 = y4 := by rw [IntKind.wrap_u64]; omega
        have e2 : IntKind.u64.wrap (y4 * 4294967296) = y4 * 4294967296 := by rw [IntKind.wrap_u64]; omega
        have hLr : L = (y0 + 256 * (y1 + 256 * (y2 + 256 * (y3 + 256 * 0)))) := by rw [hL]; simp only [psum]
        obtain ⟨R, hR⟩ : ∃ R, R = psum [y0, y1, y2, y3, y4, y5, y6, y7] 5 := ⟨_, rfl⟩
        have hor : bits .or .u64 L (y4 * 4294967296) = R := by
          rw [hLr, hR]
          simp (disch := omega) only [u64_or32, psum]
          omega
        have hn := heap_setCell_same wr (w.heap.size + 1 + 1) 1 _ _ (.int .u64 R) h2'
        rw [hR] at hn
        have hw0 : IntKind.i64.wrap 1 = 1 := IntWalk.i64_in _ (by omega)
        have hw1 : IntKind.i64.wrap 4 = 4 := IntWalk.i64_in _ (by omega)
        have hw2 : IntKind.i64.wrap 32 = 32 := IntWalk.i64_in _ (by omega)
        have HN := Lib.hid hn
        have HR := Lib.hid hR
        clear hL hLr hn hR h2 h2' f2
        go_wp2
        go_still_tail 12, (by kernel_rfl)
        change wpList _ _ _ _ _ wr.drew
        have c1 : wr.drew.cell? ⟨w.heap.size + 1 + 1, 1, none⟩ = some (.int .u64 L) := c0
        have f1 : wr.drew.frozen? ⟨w.heap.size + 1 + 1, 1, none⟩ = false := f0
        go_wp2
        have hsx : ∀ v : Value, Upd [] w (wr.setCell ⟨w.heap.size + 1 + 1, 1, none⟩ v).drew := fun v => (hU.setCell v (.inr (by show w.heap.size ≤ w.heap.size + 1 + 1; omega))).drew
        go_roundw
        case rel =>
          refine ⟨13, by omega, by go_num, ?_, ?_, hsx _⟩
          · show (wr.setCell _ _).heap[_]? = _
            rw [heap_setCell_other _ _ _ _ (by show ¬ w.heap.size + 1 = w.heap.size + 1 + 1; omega)]; exact h1
          · show (wr.setCell _ _).heap[_]? = _
            rw [HR.out]; exact HN.out
        case measure => simp [intOf]
      · have h2' : wr.heap[w.heap.size + 1 + 1]? = some (.cells #[.int .u64 (psum [x0, x1, x2, x3, x4, x5, x6, x7] 8), .int .u64 (psum [y0, y1, y2, y3, y4, y5, y6, y7] 5), .int .u64 0, .int .u64 0] 67 (0, 0)) := h2
        have hix : (Instr.index 295 (.agg #[.int .u8 x0, .int .u8 x1, .int .u8 x2, .int .u8 x3, .int .u8 x4, .int .u8 x5, .int .u8 x6, .int .u8 x7, .int .u8 y0, .int .u8 y1, .int .u8 y2, .int .u8 y3, .int .u8 y4, .int .u8 y5, .int .u8 y6, .int .u8 y7]) (.int .i64 13)).run Tryz.prog wr = .ok (.int .u8 y5) wr := by kernel_rfl
        obtain ⟨L, hL⟩ : ∃ L, L = psum [y0, y1, y2, y3, y4, y5, y6, y7] 5 := ⟨_, rfl⟩
        have c0 : wr.cell? ⟨w.heap.size + 1 + 1, 1, none⟩ = some (.int .u64 L) := by rw [hL]; exact (cellAt h2' 1).trans rfl
        have f0 := f2 1
        have e1 : IntKind.u64.wrap y5 = y5 := by rw [IntKind.wrap_u64]; omega
        have e2 : IntKind.u64.wrap (y5 * 1099511627776) = y5 * 1099511627776 := by rw [IntKind.wrap_u64]; omega
        have hLr : L = (y0 + 256 * (y1 + 256 * (y2 + 256 * (y3 + 256 * (y4 + 256 * 0))))) := by rw [hL]; simp only [psum]
        obtain ⟨R, hR⟩ : ∃ R, R = psum [y0, y1, y2, y3, y4, y5, y6, y7] 6 := ⟨_, rfl⟩
        have hor : bits .or .u64 L (y5 * 1099511627776) = R := by
          rw [hLr, hR]
          simp (disch := omega) only [u64_or40, psum]
          omega
        have hn := heap_setCell_same wr (w.heap.size + 1 + 1) 1 _ _ (.int .u64 R) h2'
        rw [hR] at hn
        have hw0 : IntKind.i64.wrap 1 = 1 := IntWalk.i64_in _ (by omega)
        have hw1 : IntKind.i64.wrap 5 = 5 := IntWalk.i64_in _ (by omega)
        have hw2 : IntKind.i64.wrap 40 = 40 := IntWalk.i64_in _ (by omega)
        have HN := Lib.hid hn
        have HR := Lib.hid hR
        clear hL hLr hn hR h2 h2' f2
        go_wp2
        go_still_tail 12, (by kernel_rfl)
        change wpList _ _ _ _ _ wr.drew
        have c1 : wr.drew.cell? ⟨w.heap.size + 1 + 1, 1, none⟩ = some (.int .u64 L) := c0
        have f1 : wr.drew.frozen? ⟨w.heap.size + 1 + 1, 1, none⟩ = false := f0
        go_wp2
        have hsx : ∀ v : Value, Upd [] w (wr.setCell ⟨w.heap.size + 1 + 1, 1, none⟩ v).drew := fun v => (hU.setCell v (.inr (by show w.heap.size ≤ w.heap.size + 1 + 1; omega))).drew
        go_roundw
        case rel =>
          refine ⟨14, by omega, by go_num, ?_, ?_, hsx _⟩
          · show (wr.setCell _ _).heap[_]? = _
            rw [heap_setCell_other _ _ _ _ (by show ¬ w.heap.size + 1 = w.heap.size + 1 + 1; omega)]; exact h1
          · show (wr.setCell _ _).heap[_]? = _
            rw [HR.out]; exact HN.out
        case measure => simp [intOf]
      · have h2' : wr.heap[w.heap.size + 1 + 1]? = some (.cells #[.int .u64 (psum [x0, x1, x2, x3, x4, x5, x6, x7] 8), .int .u64 (psum [y0, y1, y2, y3, y4, y5, y6, y7] 6), .int .u64 0, .int .u64 0] 67 (0, 0)) := h2
        have hix : (Instr.index 295 (.agg #[.int .u8 x0, .int .u8 x1, .int .u8 x2, .int .u8 x3, .int .u8 x4, .int .u8 x5, .int .u8 x6, .int .u8 x7, .int .u8 y0, .int .u8 y1, .int .u8 y2, .int .u8 y3, .int .u8 y4, .int .u8 y5, .int .u8 y6, .int .u8 y7]) (.int .i64 14)).run Tryz.prog wr = .ok (.int .u8 y6) wr := by kernel_rfl
        obtain ⟨L, hL⟩ : ∃ L, L = psum [y0, y1, y2, y3, y4, y5, y6, y7] 6 := ⟨_, rfl⟩
        have c0 : wr.cell? ⟨w.heap.size + 1 + 1, 1, none⟩ = some (.int .u64 L) := by rw [hL]; exact (cellAt h2' 1).trans rfl
        have f0 := f2 1
        have e1 : IntKind.u64.wrap y6 = y6 := by rw [IntKind.wrap_u64]; omega
        have e2 : IntKind.u64.wrap (y6 * 281474976710656) = y6 * 281474976710656 := by rw [IntKind.wrap_u64]; omega
        have hLr : L = (y0 + 256 * (y1 + 256 * (y2 + 256 * (y3 + 256 * (y4 + 256 * (y5 + 256 * 0)))))) := by rw [hL]; simp only [psum]
        obtain ⟨R, hR⟩ : ∃ R, R = psum [y0, y1, y2, y3, y4, y5, y6, y7] 7 := ⟨_, rfl⟩
        have hor : bits .or .u64 L (y6 * 281474976710656) = R := by
          rw [hLr, hR]
          simp (disch := omega) only [u64_or48, psum]
          omega
        have hn := heap_setCell_same wr (w.heap.size + 1 + 1) 1 _ _ (.int .u64 R) h2'
        rw [hR] at hn
        have hw0 : IntKind.i64.wrap 1 = 1 := IntWalk.i64_in _ (by omega)
        have hw1 : IntKind.i64.wrap 6 = 6 := IntWalk.i64_in _ (by omega)
        have hw2 : IntKind.i64.wrap 48 = 48 := IntWalk.i64_in _ (by omega)
        have HN := Lib.hid hn
        have HR := Lib.hid hR
        clear hL hLr hn hR h2 h2' f2
        go_wp2
        go_still_tail 12, (by kernel_rfl)
        change wpList _ _ _ _ _ wr.drew
        have c1 : wr.drew.cell? ⟨w.heap.size + 1 + 1, 1, none⟩ = some (.int .u64 L) := c0
        have f1 : wr.drew.frozen? ⟨w.heap.size + 1 + 1, 1, none⟩ = false := f0
        go_wp2
        have hsx : ∀ v : Value, Upd [] w (wr.setCell ⟨w.heap.size + 1 + 1, 1, none⟩ v).drew := fun v => (hU.setCell v (.inr (by show w.heap.size ≤ w.heap.size + 1 + 1; omega))).drew
        go_roundw
        case rel =>
          refine ⟨15, by omega, by go_num, ?_, ?_, hsx _⟩
          · show (wr.setCell _ _).heap[_]? = _
            rw [heap_setCell_other _ _ _ _ (by show ¬ w.heap.size + 1 = w.heap.size + 1 + 1; omega)]; exact h1
          · show (wr.setCell _ _).heap[_]? = _
            rw [HR.out]; exact HN.out
        case measure => simp [intOf]
      · have h2' : wr.heap[w.heap.size + 1 + 1]? = some (.cells #[.int .u64 (psum [x0, x1, x2, x3, x4, x5, x6, x7] 8), .int .u64 (psum [y0, y1, y2, y3, y4, y5, y6, y7] 7), .int .u64 0, .int .u64 0] 67 (0, 0)) := h2
        have hix : (Instr.index 295 (.agg #[.int .u8 x0, .int .u8 x1, .int .u8 x2, .int .u8 x3, .int .u8 x4, .int .u8 x5, .int .u8 x6, .int .u8 x7, .int .u8 y0, .int .u8 y1, .int .u8 y2, .int .u8 y3, .int .u8 y4, .int .u8 y5, .int .u8 y6, .int .u8 y7]) (.int .i64 15)).run Tryz.prog wr = .ok (.int .u8 y7) wr := by kernel_rfl
        obtain ⟨L, hL⟩ : ∃ L, L = psum [y0, y1, y2, y3, y4, y5, y6, y7] 7 := ⟨_, rfl⟩
        have c0 : wr.cell? ⟨w.heap.size + 1 + 1, 1, none⟩ = some (.int .u64 L) := by rw [hL]; exact (cellAt h2' 1).trans rfl
        have f0 := f2 1
        have e1 : IntKind.u64.wrap y7 = y7 := by rw [IntKind.wrap_u64]; omega
        have e2 : IntKind.u64.wrap (y7 * 72057594037927936) = y7 * 72057594037927936 := by rw [IntKind.wrap_u64]; omega
        have hLr : L = (y0 + 256 * (y1 + 256 * (y2 + 256 * (y3 + 256 * (y4 + 256 * (y5 + 256 * (y6 + 256 * 0))))))) := by rw [hL]; simp only [psum]
        obtain ⟨R, hR⟩ : ∃ R, R = psum [y0, y1, y2, y3, y4, y5, y6, y7] 8 := ⟨_, rfl⟩
        have hor : bits .or .u64 L (y7 * 72057594037927936) = R := by
          rw [hLr, hR]
          simp (disch := omega) only [u64_or56, psum]
          omega
        have hn := heap_setCell_same wr (w.heap.size + 1 + 1) 1 _ _ (.int .u64 R) h2'
        rw [hR] at hn
        have hw0 : IntKind.i64.wrap 1 = 1 := IntWalk.i64_in _ (by omega)
        have hw1 : IntKind.i64.wrap 7 = 7 := IntWalk.i64_in _ (by omega)
        have hw2 : IntKind.i64.wrap 56 = 56 := IntWalk.i64_in _ (by omega)
        have HN := Lib.hid hn
        have HR := Lib.hid hR
        clear hL hLr hn hR h2 h2' f2
        go_wp2
        go_still_tail 12, (by kernel_rfl)
        change wpList _ _ _ _ _ wr.drew
        have c1 : wr.drew.cell? ⟨w.heap.size + 1 + 1, 1, none⟩ = some (.int .u64 L) := c0
        have f1 : wr.drew.frozen? ⟨w.heap.size + 1 + 1, 1, none⟩ = false := f0
        go_wp2
        have hsx : ∀ v : Value, Upd [] w (wr.setCell ⟨w.heap.size + 1 + 1, 1, none⟩ v).drew := fun v => (hU.setCell v (.inr (by show w.heap.size ≤ w.heap.size + 1 + 1; omega))).drew
        go_roundw
        case rel =>
          refine ⟨16, by omega, by go_num, ?_, ?_, hsx _⟩
          · show (wr.setCell _ _).heap[_]? = _
            rw [heap_setCell_other _ _ _ _ (by show ¬ w.heap.size + 1 = w.heap.size + 1 + 1; omega)]; exact h1
          · show (wr.setCell _ _).heap[_]? = _
            rw [HR.out]; exact HN.out
        case measure => simp [intOf]
    · have hk0 : ¬ ((k : Int) < 16) := by omega
      obtain rfl : k = 16 := by omega
      have h2' : wr.heap[w.heap.size + 1 + 1]? = some (.cells #[.int .u64 (psum [x0, x1, x2, x3, x4, x5, x6, x7] 8), .int .u64 (psum [y0, y1, y2, y3, y4, y5, y6, y7] 8), .int .u64 0, .int .u64 0] 67 (0, 0)) := h2
      have r2 := rangeAt_blk (cs := [.int .u64 (psum [x0, x1, x2, x3, x4, x5, x6, x7] 8), .int .u64 (psum [y0, y1, y2, y3, y4, y5, y6, y7] 8), .int .u64 0, .int .u64 0]) h2'
      obtain ⟨A, hA⟩ : ∃ A, A = psum [x0, x1, x2, x3, x4, x5, x6, x7] 8 := ⟨_, rfl⟩
      obtain ⟨B, hB⟩ : ∃ B, B = psum [y0, y1, y2, y3, y4, y5, y6, y7] 8 := ⟨_, rfl⟩
      rw [← hA, ← hB] at r2
      have HA := Lib.hid hA
      have HB := Lib.hid hB
      clear h2 h2' hA hB
      go_wp2_with (first
        | ((with_reducible show wpList _ _ _ _ _ _); refine wpList_load_mid rfl 67 (.tmp 3) rfl (w.heap.size + 1 + 1) 0 rfl [.int .u64 A, .int .u64 B, .int .u64 0, .int .u64 0] _ r2 Tryz.underlying67 rfl (by kernel_rfl) ?_)
        | ((with_reducible show wpList _ _ _ _ _ _); refine wpList_store_blk rfl 67 (.tmp 2) (.tmp 24) rfl (b := w.heap.size + 1) rfl h1 (cs := [.int .u64 A, .int .u64 B, .int .u64 0, .int .u64 0]) rfl rfl (by kernel_rfl) (by simp [Value.oneCell']) ?_; intro w4 hb4 hu4; simp only [Act.put]))
      refine bodyPost_ret (v := R4.agg ⟨A, B, 0, 0⟩) (results_cell1 Tryz.results92 (b := w.heap.size + 1) rfl (run_loadVar_mid _ (w.heap.size + 1) 0 67 [.int .u64 A, .int .u64 B, .int .u64 0, .int .u64 0] _ (rangeAt_blk hb4) Tryz.underlying67 rfl (by kernel_rfl))) rfl ⟨by rw [HA.out, HB.out], ?_⟩
      exact hU.trans hu4 (fun y hy => by simp at hy; exact .inr (by omega))
end Go.Proofs.YtfbohkbpgfnceaaGreatDoor
