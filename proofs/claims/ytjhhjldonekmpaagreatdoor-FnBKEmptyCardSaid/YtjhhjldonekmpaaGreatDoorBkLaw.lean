/- The law's walk: laws.FnBKEmpty answers true. -/
import Derived.Test.YtjhhjldonekmpaaGreatDoorBkAll
import Derived.Test.YtjhhjldonekmpaaGreatDoorBkSpec
import Derived.Test.YtjhhjldonekmpaaGreatDoorDrawn3
import Derived.Laws.StructEq
namespace Go.Proofs.YtjhhjldonekmpaaGreatDoor
open Go Go.RowKit
set_option maxRecDepth 100000 in
set_option maxHeartbeats 1000000 in
theorem bkKnown0 (ov : Bool) (b v : Int) (w : World) : Calls Tryz.prog 10 #[headV ov b 0 0, .int .i64 v] w fun e w' => e = .returned (.agg (knownC v ov b).toArray) ∧ Upd [] w w' := by
  obtain ⟨k1, u1, s1⟩ := alloc_facts w (Obj.cells #[.bool ov, .int .i64 b, .int .i64 0, .int .i64 0] 25)
  obtain ⟨k2, u2, s2⟩ := alloc_facts (w.alloc (Obj.cells #[.bool ov, .int .i64 b, .int .i64 0, .int .i64 0] 25)) (Obj.cells #[.bool false, .int .i64 0, .int .i64 0, .int .i64 0] 25)
  have k1' := u2.at k1 (by simp)
  have u12 := u1.trans u2 (fun _ h => .inl h)
  rw [s1] at k2
  by_cases hv : 51903 ≤ v
  · have hv' : ¬ v < 51903 := by omega
    have hr1 := rangeAt_blk (cs := [.bool ov, .int .i64 b, .int .i64 0, .int .i64 0]) k1'
    rw [show knownC v ov b = [.bool ov, .int .i64 b, .int .i64 0, .int .i64 0] from by simp [knownC, hv]]
    go_enter Tryz.func10, Tryz.ntmps10
    simp only [headV]
    go_wp2_with (first
      | ((with_reducible show wpList _ _ _ _ _ _); refine wpList_load_mid rfl 25 (.tmp 2) rfl w.heap.size 0 rfl [.bool ov, .int .i64 b, .int .i64 0, .int .i64 0] _ hr1 Tryz.underlying25 rfl (by kernel_rfl) ?_)
      | ((with_reducible show wpList _ _ _ _ _ _); refine wpList_store_blk rfl 25 (.tmp 4) (.tmp 9) rfl (b := w.heap.size + 1) rfl k2 (cs := [.bool ov, .int .i64 b, .int .i64 0, .int .i64 0]) rfl rfl (by kernel_rfl) (by simp [Value.oneCell']) ?_; intro w4 hb4 hu4; simp only [Act.put]))
    refine bodyPost_ret (v := .agg #[.bool ov, .int .i64 b, .int .i64 0, .int .i64 0]) (results_cell1 Tryz.results10 (b := w.heap.size + 1) rfl (run_loadVar_mid w4 (w.heap.size + 1) 0 25 [.bool ov, .int .i64 b, .int .i64 0, .int .i64 0] _ (rangeAt_blk hb4) Tryz.underlying25 rfl (by kernel_rfl))) rfl ⟨rfl, ?_⟩
    exact u12.trans hu4 (fun y hy => by simp at hy; exact .inr (by omega))
  · have hv' : v < 51903 := by omega
    rw [show knownC v ov b = [.bool false, .int .i64 0, .int .i64 0, .int .i64 0] from by simp [knownC, hv]]
    go_enter Tryz.func10, Tryz.ntmps10
    simp only [headV]
    go_wp2
    obtain ⟨j1, v1, t1⟩ := alloc_facts w (Obj.cells #[.bool false, .int .i64 0, .int .i64 0, .int .i64 0] 25)
    obtain ⟨j2, v2, t2⟩ := alloc_facts (w.alloc (Obj.cells #[.bool false, .int .i64 0, .int .i64 0, .int .i64 0] 25)) (Obj.cells #[.bool false, .int .i64 0, .int .i64 0, .int .i64 0] 25)
    rw [t1] at j2
    refine bodyPost_ret (v := .agg #[.bool false, .int .i64 0, .int .i64 0, .int .i64 0]) (results_cell1 Tryz.results10 (b := w.heap.size + 1) rfl (run_loadVar_mid _ (w.heap.size + 1) 0 25 [.bool false, .int .i64 0, .int .i64 0, .int .i64 0] _ (rangeAt_blk j2) Tryz.underlying25 rfl (by kernel_rfl))) rfl ⟨rfl, v1.trans v2 (fun _ h => .inl h)⟩
set_option maxRecDepth 100000 in
set_option maxHeartbeats 1000000 in
theorem bkEnd (ov : Bool) (b c r : Int) (w : World) : Calls Tryz.prog 11 #[headV ov b c r] w fun e w' => e = .returned (.bool (decide (c = 0) && decide (r = 0))) ∧ Upd [] w w' := by
  obtain ⟨k1, u1, s1⟩ := alloc_facts w (Obj.cells #[.bool ov, .int .i64 b, .int .i64 c, .int .i64 r] 25)
  have hr1 := rangeAt_blk (cs := [.bool ov, .int .i64 b, .int .i64 c, .int .i64 r]) k1
  go_enter Tryz.func11, Tryz.ntmps11
  simp only [headV]
  go_wp2_with (first
    | ((with_reducible show wpList _ _ _ _ _ _); refine wpList_load_mid rfl 25 (.tmp 1) rfl w.heap.size 0 rfl [.bool ov, .int .i64 b, .int .i64 c, .int .i64 r] _ hr1 Tryz.underlying25 rfl (by kernel_rfl) ?_)
    | (go_at_call 13; (refine (block_of ov b c r _).mono ?_); rintro e w2 ⟨rfl, hu2⟩; have k2 := heap_alloc_new w2 (Obj.cells #[.bool false, .int .i64 0, .int .i64 0, .int .i64 0] 52))
    | ((with_reducible show wpList _ _ _ _ _ _); refine wpList_store_blk rfl 52 (.tmp 3) (.tmp 5) rfl (b := w2.heap.size) rfl k2 (cs := [.bool ov, .int .i64 b, .int .i64 c, .int .i64 r]) rfl rfl (by kernel_rfl) (by simp [Value.oneCell']) ?_; intro w3 hb3 hu3; simp only [Act.put])
    | (go_at_call 23; (refine (blockEnd w2.heap.size ov b c r _ hb3).mono ?_); rintro e w4 ⟨rfl, rfl⟩))
  go_ret
  exact ⟨rfl, ((u1.trans hu2 (fun _ h => .inl h)).alloc _).trans hu3 (fun y hy => by simp at hy; have := u1.size; have := hu2.size; exact .inr (by omega))⟩
theorem bkEndA (ov : Bool) (b c r : Int) (w : World) : Calls Tryz.prog 11 #[.agg #[.bool ov, .int .i64 b, .int .i64 c, .int .i64 r]] w fun e w' => e = .returned (.bool (decide (c = 0) && decide (r = 0))) ∧ Upd [] w w' := bkEnd ov b c r w
set_option maxRecDepth 100000 in
set_option maxHeartbeats 2000000 in
theorem bkEmpty (ov : Bool) (b x : Int) (hb : -2147483648 ≤ b ∧ b < 2147483648) (hx : 0 ≤ x ∧ x < 65536) (w : World) :
    Calls Tryz.prog 3 #[.bool ov, .int .i32 b, .int .u16 x] w fun e w' => e = .returned (.bool true) ∧ Upd [] w w' := by
  obtain ⟨v, hv⟩ : ∃ v, v = 50000 + x % 4501 := ⟨_, rfl⟩
  have hpv := pkVersion x hx.1 hx.2
  rw [← hv] at hpv
  obtain ⟨N, hN⟩ : ∃ N, N = (blockV v ov b).length := ⟨_, rfl⟩
  have hkl := knownC_len v ov b
  have hko := knownC_one v ov b
  have hkn : ∃ (ov' : Bool) (b' : Int), knownC v ov b = [.bool ov', .int .i64 b', .int .i64 0, .int .i64 0] := by
    unfold knownC
    split
    · exact ⟨_, _, rfl⟩
    · exact ⟨_, _, rfl⟩
  obtain ⟨ov', b', hkn⟩ := hkn
  have HN := Lib.hid hN
  have HV := Lib.hid hv
  clear hN hv hx
  go_enter Tryz.func3, Tryz.ntmps3
  go_wp2_with (first
    | (go_at_call 4; (refine (hpv _).mono ?_); rintro e w1 ⟨rfl, rfl⟩)
    | (go_at_call 5; (refine (bkInfo0 ov b hb _).mono ?_); rintro e w2 ⟨rfl, hu2⟩; have k2 := heap_alloc_new w2 (Obj.cells #[.bool false, .int .i64 0, .int .i64 0, .int .i64 0] 25); have u2 := (Upd.refl [] w2).alloc (Obj.cells #[.bool false, .int .i64 0, .int .i64 0, .int .i64 0] 25))
    | ((with_reducible show wpList _ _ _ _ _ _); refine wpList_store_blk rfl 25 (.tmp 8) (.tmp 19) rfl (b := w2.heap.size) rfl k2 (cs := [.bool ov, .int .i64 b, .int .i64 0, .int .i64 0]) rfl rfl (by kernel_rfl) (by simp [Value.oneCell']) ?_; intro w3 hb3 hu3; simp only [Act.put]; have r3 := rangeAt_blk (cs := [.bool ov, .int .i64 b, .int .i64 0, .int .i64 0]) hb3)
    | ((with_reducible show wpList _ _ _ _ _ _); refine wpList_load_mid rfl 25 (.tmp 8) rfl w2.heap.size 0 rfl [.bool ov, .int .i64 b, .int .i64 0, .int .i64 0] _ r3 Tryz.underlying25 rfl (by kernel_rfl) ?_)
    | (go_at_call 6; apply stopHere))
  show Calls _ _ _ _ _
  refine (BKEncode0 ov b v _ hb).mono ?_
  rintro e w4 ⟨g, c4, rfl, hR4, hu4, hg4⟩
  rw [← HN.out] at hR4 ⊢
  dsimp only
  go_wp2_with (first
    | (go_at_call 7; apply stopHere))
  show Calls _ _ _ _ _
  refine (BKDecode0 g N c4 ov b v hb _ HN.out hR4).mono ?_
  rintro e w5 ⟨rfl, hu5⟩
  dsimp only
  rw [hkn]
  have hu23 : Upd [] w1 w3 := (hu2.trans u2 (fun _ h => .inl h)).trans hu3 (fun y hy => by simp at hy; have := hu2.size; exact .inr (by omega))
  have r5 := (hu4.trans hu5 (fun _ h => .inl h)).range r3 (lt_of_block hb3) (by simp)
  have hl5 : w2.heap.size < w5.heap.size := Nat.lt_of_lt_of_le (lt_of_block hb3) (hu4.trans hu5 (fun _ h => .inl h)).size
  have hR5 := hR4.upd hu5 (by simp)
  have hu35 := hu23.trans (hu4.trans hu5 (fun _ h => .inl h)) (fun _ h => .inl h)
  have k5 := heap_alloc_new w5 (Obj.cells #[.bool false, .int .i64 0, .int .i64 0, .int .i64 0] 25)
  have u5 := (Upd.refl [] w5).alloc (Obj.cells #[.bool false, .int .i64 0, .int .i64 0, .int .i64 0] 25)
  clear k2 u2 hb3 hu3 r3 hR4 hu4 hu5 hu23
  go_wp2_with (first
    | ((with_reducible show wpList _ _ _ _ _ _); refine wpList_store_blk rfl 25 (.tmp 11) (.tmp 30) rfl (b := w5.heap.size) rfl k5 (cs := [.bool ov', .int .i64 b', .int .i64 0, .int .i64 0]) rfl rfl (by kernel_rfl) (by simp [Value.oneCell']) ?_; intro w6 hb6 hu6; simp only [Act.put]))
  have h56 : Upd [] w5 w6 := u5.trans hu6 (fun y hy => by simp at hy; exact .inr (by omega))
  have hR6 := hR5.upd h56 (by simp)
  have r6 := h56.range r5 hl5 (by simp)
  have hl6 : w2.heap.size < w6.heap.size := Nat.lt_of_lt_of_le hl5 h56.size
  have t6 := rangeAt_blk (cs := [.bool ov', .int .i64 b', .int .i64 0, .int .i64 0]) hb6
  have ht6 := lt_of_block hb6
  have hu36 := hu35.trans h56 (fun _ h => .inl h)
  clear k5 u5 hb6 hu6 h56 r5 hl5 hR5 hu35
  refine wp_region_stps (S := Upd [] w6) [(some true, 0), (some true, 1), (some true, 2), (some true, 3), (some true, 4), (some true, 5), (some true, 6), (some true, 7), (none, 8), (none, 9), (some true, 10), (some true, 11), (some true, 12), (some true, 13), (some true, 14), (none, 15)] [16, 17, 18, 19, 20, 21, 22, 23, 24, 25, 26, 27, 28, 29, 30, 31, 32, 33, 34, 35, 36, 37, 38, 39, 40, 41] (by kernel_rfl) (by kernel_rfl) (fun _ _ d _ _ h => by cases d <;> exact h) ((Upd.refl _ _).drew) ?_
  simp only [stpsAt, opersAt, Option.map_some, List.filterMap_cons, List.filterMap_nil, List.getElem?_toArray, List.getElem?_cons_succ, List.getElem?_cons_zero]
  refine ⟨_, Or.inl ⟨by rfl, fun w' hS => by first | (go_simp; done) | (go_simp; with_reducible rfl)⟩, ?_⟩
  simp only [Act.put, List.setIfInBounds_toArray, List.set_cons_zero, List.set_cons_succ]
  refine ⟨_, Or.inl ⟨by rfl, fun w' hS => by first | (go_simp; done) | (go_simp; with_reducible rfl)⟩, ?_⟩
  simp only [Act.put, List.setIfInBounds_toArray, List.set_cons_zero, List.set_cons_succ]
  refine ⟨_, Or.inl ⟨by rfl, fun w' hS => by first | (go_simp; done) | (go_simp; with_reducible rfl)⟩, ?_⟩
  simp only [Act.put, List.setIfInBounds_toArray, List.set_cons_zero, List.set_cons_succ]
  refine ⟨_, Or.inl ⟨by rfl, fun w' hS => by first | (go_simp; done) | (go_simp; with_reducible rfl)⟩, ?_⟩
  simp only [Act.put, List.setIfInBounds_toArray, List.set_cons_zero, List.set_cons_succ]
  refine ⟨_, Or.inl ⟨by rfl, fun w' hS => by first | (go_simp; done) | (go_simp; with_reducible rfl)⟩, ?_⟩
  simp only [Act.put, List.setIfInBounds_toArray, List.set_cons_zero, List.set_cons_succ]
  refine ⟨_, Or.inl ⟨by rfl, fun w' hS => by first | (go_simp; done) | (go_simp; with_reducible rfl)⟩, ?_⟩
  simp only [Act.put, List.setIfInBounds_toArray, List.set_cons_zero, List.set_cons_succ]
  refine ⟨_, yieldsIf_load_mid (by rfl) 25 (.tmp 8) rfl w2.heap.size 0 rfl [.bool ov, .int .i64 b, .int .i64 0, .int .i64 0] _ (fun w' hS => Upd.range hS r6 hl6 (by simp)) Tryz.underlying25 rfl (by kernel_rfl), ?_⟩
  simp only [Act.put, List.setIfInBounds_toArray, List.set_cons_zero, List.set_cons_succ]
  refine ⟨_, Or.inl ⟨by rfl, fun w' hS => by first | (go_simp; done) | (go_simp; with_reducible rfl)⟩, ?_⟩
  simp only [Act.put, List.setIfInBounds_toArray, List.set_cons_zero, List.set_cons_succ]
  intro L0 hL0
  rw [if_pos (by rfl)]
  go_simp; refine (specBytes ov b v _).mono ?_; rintro e w7 ⟨ao7, c7, rfl, hR7, hu7, hi7⟩; rw [← HN.out] at hR7 ⊢; dsimp only; go_simp
  refine hL0 _ _ ⟨hu7.ofDrew, ?_⟩
  clear hL0 L0
  intro L1 hL1
  rw [if_pos (by rfl)]
  go_simp; refine (bytesEqual _ _ _ _ _ _ (blockV v ov b) _ (hR6.toView.upd hu7.ofDrew (by simp)) hR7.toView (blockV_bytes v ov b)).mono ?_; rintro e w8 ⟨rfl, rfl⟩; dsimp only; go_simp
  refine hL1 _ _ ⟨hu7.ofDrew, ?_⟩
  clear hL1 L1
  refine ⟨_, Or.inl ⟨by rfl, fun w' hS => by first | (go_simp; done) | (go_simp; with_reducible rfl)⟩, ?_⟩
  simp only [Act.put, List.setIfInBounds_toArray, List.set_cons_zero, List.set_cons_succ]
  refine ⟨_, Or.inl ⟨by rfl, fun w' hS => by first | (go_simp; done) | (go_simp; with_reducible rfl)⟩, ?_⟩
  simp only [Act.put, List.setIfInBounds_toArray, List.set_cons_zero, List.set_cons_succ]
  refine ⟨_, yieldsIf_load_mid (by rfl) 25 (.tmp 11) rfl w5.heap.size 0 rfl [.bool ov', .int .i64 b', .int .i64 0, .int .i64 0] _ (fun w' hS => Upd.range hS t6 ht6 (by simp)) Tryz.underlying25 rfl (by kernel_rfl), ?_⟩
  simp only [Act.put, List.setIfInBounds_toArray, List.set_cons_zero, List.set_cons_succ]
  refine ⟨_, yieldsIf_load_mid (by rfl) 25 (.tmp 8) rfl w2.heap.size 0 rfl [.bool ov, .int .i64 b, .int .i64 0, .int .i64 0] _ (fun w' hS => Upd.range hS r6 hl6 (by simp)) Tryz.underlying25 rfl (by kernel_rfl), ?_⟩
  simp only [Act.put, List.setIfInBounds_toArray, List.set_cons_zero, List.set_cons_succ]
  refine ⟨_, Or.inl ⟨by rfl, fun w' hS => by first | (go_simp; done) | (go_simp; with_reducible rfl)⟩, ?_⟩
  simp only [Act.put, List.setIfInBounds_toArray, List.set_cons_zero, List.set_cons_succ]
  intro L2 hL2
  rw [if_pos (by rfl)]
  go_simp; refine (bkKnown0 ov b v _).mono ?_; rintro e w9 ⟨rfl, hu9⟩; rw [hkn]; dsimp only; go_simp
  refine hL2 _ _ ⟨hu7.ofDrew.trans hu9 (fun _ h => .inl h), ?_⟩
  clear hL2 L2
  change wpList _ _ _ [_, _, _, _, _, _, _, _, _, _, _, _, _, _, _, _, _, _, _, _, _, _, _, _, _, _] _ _
  have r9 := (hu7.ofDrew.trans hu9 (fun _ h => .inl h)).range r6 hl6 (by simp)
  have hl9 : w2.heap.size < w9.heap.size := Nat.lt_of_lt_of_le hl6 (hu7.ofDrew.trans hu9 (fun _ h => .inl h)).size
  go_wp2_with (first
    | ((with_reducible show wpList _ _ _ _ _ _); refine wpList_load_midG (by rfl) 25 (.tmp 8) rfl w2.heap.size 0 rfl [.bool ov, .int .i64 b, .int .i64 0, .int .i64 0] _ r9 Tryz.underlying25 rfl (by kernel_rfl) ?_)
    | (go_at_call 11; (with_reducible refine (bkEndA ov b 0 0 _).mono ?_); rintro e w10 ⟨rfl, hu10⟩)
    | (go_at_call 11; (with_reducible refine (bkEndA false 0 1 0 _).mono ?_); rintro e w11 ⟨rfl, hu11⟩)
    | (go_at_call 11; (with_reducible refine (bkEndA false 0 0 1 _).mono ?_); rintro e w12 ⟨rfl, hu12⟩))
  go_ret
  exact ⟨rfl, (((hu36.trans (hu7.ofDrew.trans hu9 (fun _ h => .inl h)) (fun _ h => .inl h)).trans hu10 (fun _ h => .inl h)).trans hu11 (fun _ h => .inl h)).trans hu12 (fun _ h => .inl h)⟩
end Go.Proofs.YtjhhjldonekmpaaGreatDoor
