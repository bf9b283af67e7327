/- The law's walk: laws.FnBKOthers answers true. -/
import Derived.Test.YtfbohkbpgfnceaaGreatDoorLO2
namespace Go.Proofs.YtfbohkbpgfnceaaGreatDoor
set_option linter.unusedVariables false
set_option linter.unusedSimpArgs false
open Go Go.RowKit
set_option maxRecDepth 100000 in
set_option maxHeartbeats 4000000 in
theorem bkOthers (x : Int) (hx : 0 ≤ x ∧ x < 65536) (a0 : Option Addr) (c0 : Nat) (xs : List Rc) (z : Int) (hz : 0 ≤ z ∧ z < 256) (y : Int) (hy : 0 ≤ y ∧ y < 256) (w : World) (h1 : Rcs w a0 xs) (hw : Wds w) :
    Calls Tryz.prog 3 #[.int .u16 x, .slice a0 xs.length c0, .int .u8 z, .int .u8 y] w fun e w' => e = .returned (.bool true) ∧ Upd [] w w' := by
  obtain ⟨v, hv⟩ : ∃ v, v = 50000 + x % 4501 := ⟨_, rfl⟩
  have hpv := pkVersion x hx.1 hx.2
  rw [← hv] at hpv
  clear hv hx
  go_enter Tryz.func3, Tryz.ntmps3
  go_wp2_with (go_at_call 4; apply stopHere)
  show Calls _ _ _ _ _
  refine (zzFits11 a0 c0 xs _ h1).mono ?_
  rintro e w1 ⟨⟨b1, rfl⟩, hU1⟩
  dsimp only
  cases b1
  · go_wp2
    go_ret
    exact ⟨rfl, hU1⟩
  go_wp2_with (go_at_call 5; apply stopHere)
  show Calls _ _ _ _ _
  refine (bkFit a0 c0 xs _ (h1.upd hU1) (hw.upd hU1)).mono ?_
  rintro e w2 ⟨⟨b2, rfl, hf1⟩, hu2⟩
  have hU2 : Upd [] w w2 := hU1.trans hu2 (fun _ h => .inl h)
  clear hU1 hu2
  dsimp only
  cases b2
  · clear hf1
    go_wp2
    go_ret
    exact ⟨rfl, hU2⟩
  replace hf1 := hf1 rfl
  have hok1 := hf1.okB h1.rok
  have hl1 : (xs.map Rc.bc).length = xs.length := List.length_map _
  have hx5 := hf1.n1
  have hx0 := hf1.n0
  -- which column
  obtain ⟨i, hi, hzi⟩ : ∃ i : Nat, i < xs.length ∧ z.tmod (xs.length : Int) = i := by
    have hp : (0 : Int) < xs.length := by omega
    obtain ⟨i, hi⟩ := Int.eq_ofNat_of_zero_le (Int.emod_nonneg z (show ((xs.length : Int)) ≠ 0 by omega))
    have := Int.emod_lt_of_pos z hp
    exact ⟨i, by omega, by rw [Int.tmod_eq_emod_of_nonneg hz.1]; exact hi⟩
  have hwz : IntKind.i64.wrap z = z := IntWalk.i64_in _ (by omega)
  have hwi : IntKind.i64.wrap (i : Int) = i := IntWalk.i64_in _ (by omega)
  have hn0 : ¬ (xs.length : Int) = 0 := by omega
  have hn1 : ((xs.length : Int) == 0) = false := beq_eq_false_iff_ne.2 hn0
  have hm4 : y.tmod 4 = y % 4 := Int.tmod_eq_emod_of_nonneg hy.1
  have E1 := fun (W : World) (hW : Rcs W a0 xs) => BKEncode_K false 0 v (by decide) (rowsOf xs) hf1.r1 a0 c0 (xs.map Rc.bc) (by omega) hok1 hf1.rnB W (hW.bcs hf1)
  have D1 := fun (W : World) (hW : Rcs W a0 xs) (d N c : Nat) => BKDecode_K false 0 v (by decide) (rowsOf xs) hf1.r0 hf1.r1 d 0 N c [] a0 c0 (xs.map Rc.bc) (by omega) (by omega) hok1 hf1.rnB hf1.nmB W (hW.bcs hf1).view
  have hA0 := (blkB_len (v := v) (ov := false) (b := 0) (R := rowsOf xs) hok1).2
  have O1 := fun (W : World) (d N c : Nat) (ac : Option Addr) (cc : Nat) (ys : List Rc) (hne : xs.length ≠ ys.length) (hyl : ys.length ≤ 10) (hyk : ∀ y ∈ ys, 1 ≤ y.kind ∧ y.kind ≤ 18) (hcv : View W 3 ac ys.length (ys.flatMap Rc.cells)) (hr : W.rangeAt d 0 (blkB v false 0 (rowsOf xs) (xs.map Rc.bc))) => BKDecode_other false 0 v (by decide) d N c ac cc xs hf1 h1.rok ys hne hyl hyk W hcv hr
  have O2 := fun (W : World) (d N c : Nat) (ac : Option Addr) (cc : Nat) (x' : Rc) (ha : Alt xs i hi x') (hbad : ∀ rest, Bad v x'.bc (colV v xs[i].bc ++ rest)) (hcv : View W 3 ac xs.length ((xs.set i x').flatMap Rc.cells)) (hr : W.rangeAt d 0 (blkB v false 0 (rowsOf xs) (xs.map Rc.bc))) => BKDecode_alt false 0 v (by decide) d N c ac cc xs hf1 h1.rok i hi x' ha hbad W hcv hr
  rw [hl1] at E1 D1
  generalize blkB v false 0 (rowsOf xs) (xs.map Rc.bc) = YA at *
  obtain ⟨NA, hNA⟩ : ∃ N, N = YA.length := ⟨_, rfl⟩
  rw [← hNA] at hA0
  have HA := Lib.hid hNA
  clear hNA
  have I1 := fun (W : World) (hW : Rcs W a0 xs) => bkInfo false 0 (by decide) a0 c0 xs hx0 W hW
  go_wp2
  go_quiet ((go_at_call 6; exact Calls.quiet_of_same (hpv _)))
  have hU2q := hU2.drewN nq
  generalize w2.drewN nq = W2 at *
  have hr1 := h1.upd hU2q
  go_wp2_with (go_at_call 8; apply stopHere)
  show Calls _ _ _ _ _
  refine (I1 _ hr1).mono ?_
  rintro e w6 ⟨rfl, hu6⟩
  have hU6 := hU2q.trans hu6 (fun _ h => .inl h)
  clear hU2 hU2q hu6 hr1 I1
  dsimp only
  go_wp2_with (go_at_call 7; apply stopHere)
  show Calls _ _ _ _ _
  refine (E1 _ (h1.upd hU6)).mono ?_
  rintro e w7 ⟨g1, cg1, rfl, hR7, hu7, hg7⟩
  rw [← HA.out] at hR7 ⊢
  have hU7 := hU6.trans hu7 (fun _ h => .inl h)
  clear hU6 hu7 E1
  dsimp only
  obtain ⟨ah, ha0⟩ : ∃ a : Addr, a0 = some a := by
    obtain ⟨b, o, e, _⟩ := h1.view.at_ hx0
    exact ⟨_, e⟩
  subst ha0
  go_wp2_with (go_at_call 9; apply stopHere)
  show Calls _ _ _ _ _
  refine (cloneC ah xs.length c0 xs rfl _ (h1.upd hU7).view hx0 (by omega)).mono ?_
  rintro e w8 ⟨g2, c2, rfl, hC8, hu8, hg8⟩
  have hR8 := hR7.upd hu8 (by simp)
  have hU8 := hU7.trans hu8 (fun _ h => .inl h)
  have hs7 := hU7.size
  have hg1 := hR7.lt g1 (by simp)
  clear hU7 hu8 hR7
  have hcap := hC8.cap.1
  have hne12 : g1 ≠ g2 := by omega
  dsimp only
  have hy4 : y % 4 = 0 ∨ y % 4 = 1 ∨ y % 4 = 2 ∨ y % 4 = 3 := by omega
  rcases hy4 with hy4 | hy4 | hy4 | hy4
  · go_wp2_with (first
      | ((with_reducible show wpList _ _ _ _ _ _); refine wpList_sliceHi rfl 23 35 3 _ _ rfl Tryz.underlying23 (by kernel_rfl) g2 0 xs.length c2 rfl _ (xs.length - 1) rfl (by first | omega | (simp only [IntKind.wrap_i64]; omega)) (by omega) (by omega) ?_; simp only [Act.put])
      | (go_at_call 10; apply stopHere))
    show Calls _ _ _ _ _
    have hUx := hU8
    have hRx := hR8
    have hys : (xs.take (xs.length - 1)).length = xs.length - 1 := by rw [List.length_take]; omega
    have hvx := view_take rfl hC8 (xs.length - 1) (by omega)
    have hn := O1 _ g1 NA cg1 (some ⟨g2, 0, none⟩) c2 (xs.take (xs.length - 1)) (by omega) (by omega) (fun y hy => hf1.k y (List.mem_of_mem_take hy)) hvx (hRx.view 0 YA (fun j v hj => by rw [Nat.zero_add]; exact hj)) HA.out hRx.cap.1 (hRx.lt g1 (by simp))
    rw [hys] at hn
    with_reducible refine hn.mono ?_
    rintro e w20 ⟨rfl, hu20⟩
    clear hn
    have hU20 := hUx.trans hu20 (fun _ h => .inl h)
    have hR20 := hRx.upd hu20 (by simp)
    obtain ⟨k20, u20, s20⟩ := alloc_facts w20 (Obj.cells #[.bool false, .int .i64 0, .int .i64 0, .int .i64 0] 30)
    simp only [headV]
    go_wp2_with (first
      | ((with_reducible show wpList _ _ _ _ _ _); refine wpList_store_blk rfl 30 _ _ rfl (b := w20.heap.size) rfl k20 (cs := [.bool false, .int .i64 0, .int .i64 0, .int .i64 0]) rfl rfl (by kernel_rfl) (by simp [Value.oneCell']) ?_; intro w21 hb21 hu21; simp only [Act.put])
      | (go_at_call 10; apply stopHere))
    show Calls _ _ _ _ _
    have hu2021 : Upd [] w20 w21 := u20.trans hu21 (fun y hy => by simp at hy; exact .inr (by omega))
    have hU21 := hU20.trans hu2021 (fun _ h => .inl h)
    have hR21 := hR20.upd hu2021 (by simp)
    have hd := D1 _ (h1.upd hU21) g1 NA cg1 (by rw [List.append_nil]; exact hR21.view 0 YA (fun j v hj => by rw [Nat.zero_add]; exact hj)) (by rw [List.append_nil]; exact HA.out) hR21.cap.1 AllBytes.nil (hR21.lt g1 (by simp))
    with_reducible refine hd.mono ?_
    rintro e w22 hdec
    obtain ⟨ao22, c22, vs22, rfl, _, hu22⟩ := hdec.rows
    have hU22 := hU21.trans hu22 (fun _ h => .inl h)
    obtain ⟨k22, u22, s22⟩ := alloc_facts w22 (Obj.cells #[.bool false, .int .i64 0, .int .i64 0, .int .i64 0] 30)
    clear hd hdec
    simp only [headV, List.length_nil]
    go_wp2_with ((with_reducible show wpList _ _ _ _ _ _); refine wpList_store_blk rfl 30 _ _ rfl (b := w22.heap.size) rfl k22 (cs := [.bool (knB v false), .int .i64 (knI v 0), .int .i64 xs.length, .int .i64 (rowsOf xs)]) rfl rfl (by kernel_rfl) (by simp [Value.oneCell']) ?_; intro w23 hb23 hu23; simp only [Act.put])
    go_ret
    exact ⟨rfl, (hU22.trans u22 (fun _ h => .inl h)).trans hu23 (fun y hy => by simp at hy; have := hU22.size; exact .inr (by omega))⟩
  · go_wp2_with (first
      | (at_builtin; (refine wpList_app1 _ rfl _ _ 23 rfl 35 (.agg #[.string "".toUTF8, .int .i64 0, .slice none 0 0]) 3 48 Tryz.underlying23 Tryz.info35 rfl (by decide) hC8 rfl [.string "more".toUTF8, .int .i64 1, .slice none 0 0] rfl rfl rfl (by simp [Value.oneCell']) (by decide) (by omega) ?_); intro ao9 c9 w9 hown9 hupd9 hin9; simp only [Act.put])
      | (go_at_call 10; apply stopHere))
    show Calls _ _ _ _ _
    have hUx : Upd [] w w9 := hU8.trans hupd9 (fun y hy => by simp at hy; exact .inr (by omega))
    have hRx := hR8.upd hupd9 (by simpa using hne12)
    have hys : (xs ++ [(⟨ "more".toUTF8, 1, [], none, 0⟩ : Rc)]).length = xs.length + 1 := by simp
    have hvx : View w9 3 ao9 (xs ++ [(⟨ "more".toUTF8, 1, [], none, 0⟩ : Rc)]).length ((xs ++ [(⟨ "more".toUTF8, 1, [], none, 0⟩ : Rc)]).flatMap Rc.cells) := by
      rw [hys, List.flatMap_append, List.flatMap_singleton]
      exact hown9.toView
    have hn := O1 _ g1 NA cg1 ao9 c9 (xs ++ [(⟨ "more".toUTF8, 1, [], none, 0⟩ : Rc)]) (by omega) (by omega) (fun y hy => (List.mem_append.1 hy).elim (hf1.k y) (fun h => by simp at h; subst h; exact ⟨by decide, by decide⟩)) hvx (hRx.view 0 YA (fun j v hj => by rw [Nat.zero_add]; exact hj)) HA.out hRx.cap.1 (hRx.lt g1 (by simp))
    rw [hys] at hn
    with_reducible refine hn.mono ?_
    rintro e w20 ⟨rfl, hu20⟩
    clear hn
    have hU20 := hUx.trans hu20 (fun _ h => .inl h)
    have hR20 := hRx.upd hu20 (by simp)
    obtain ⟨k20, u20, s20⟩ := alloc_facts w20 (Obj.cells #[.bool false, .int .i64 0, .int .i64 0, .int .i64 0] 30)
    simp only [headV]
    go_wp2_with (first
      | ((with_reducible show wpList _ _ _ _ _ _); refine wpList_store_blk rfl 30 _ _ rfl (b := w20.heap.size) rfl k20 (cs := [.bool false, .int .i64 0, .int .i64 0, .int .i64 0]) rfl rfl (by kernel_rfl) (by simp [Value.oneCell']) ?_; intro w21 hb21 hu21; simp only [Act.put])
      | (go_at_call 10; apply stopHere))
    show Calls _ _ _ _ _
    have hu2021 : Upd [] w20 w21 := u20.trans hu21 (fun y hy => by simp at hy; exact .inr (by omega))
    have hU21 := hU20.trans hu2021 (fun _ h => .inl h)
    have hR21 := hR20.upd hu2021 (by simp)
    have hd := D1 _ (h1.upd hU21) g1 NA cg1 (by rw [List.append_nil]; exact hR21.view 0 YA (fun j v hj => by rw [Nat.zero_add]; exact hj)) (by rw [List.append_nil]; exact HA.out) hR21.cap.1 AllBytes.nil (hR21.lt g1 (by simp))
    with_reducible refine hd.mono ?_
    rintro e w22 hdec
    obtain ⟨ao22, c22, vs22, rfl, _, hu22⟩ := hdec.rows
    have hU22 := hU21.trans hu22 (fun _ h => .inl h)
    obtain ⟨k22, u22, s22⟩ := alloc_facts w22 (Obj.cells #[.bool false, .int .i64 0, .int .i64 0, .int .i64 0] 30)
    clear hd hdec
    simp only [headV, List.length_nil]
    go_wp2_with ((with_reducible show wpList _ _ _ _ _ _); refine wpList_store_blk rfl 30 _ _ rfl (b := w22.heap.size) rfl k22 (cs := [.bool (knB v false), .int .i64 (knI v 0), .int .i64 xs.length, .int .i64 (rowsOf xs)]) rfl rfl (by kernel_rfl) (by simp [Value.oneCell']) ?_; intro w23 hb23 hu23; simp only [Act.put])
    go_ret
    exact ⟨rfl, (hU22.trans u22 (fun _ h => .inl h)).trans hu23 (fun y hy => by simp at hy; have := hU22.size; exact .inr (by omega))⟩
  · skip
    have hcj := cells_at Rc.cells 3 Rc.cells_len (hC8.view 0 (xs.flatMap Rc.cells) (fun j v hj => by rw [Nat.zero_add]; exact hj)) i hi
    simp only [Nat.zero_add] at hcj
    have d0 : w8.cell? ⟨g2, i * 3, none⟩ = some (.string xs[i].nm) := by have := hcj 0 (by omega); rw [Nat.add_zero] at this; exact this
    have d1 : w8.cell? ⟨g2, i * 3 + 1, none⟩ = some (.int .i64 xs[i].kind) := hcj 1 (by omega)
    clear hcj
    have f0 := hC8.free (i * 3)
    have f1 := hC8.free (i * 3 + 1)
    have hxm : xs[i] ∈ xs := List.getElem_mem _
    have hk18 := hf1.k _ hxm
    have hn30 := hf1.nm _ hxm
    go_wp2_with (go_at_call 10; apply stopHere)
    show Calls _ _ _ _ _
    have hsz : (xs[i].nm ++ (⟨#[120]⟩ : ByteArray)).size = xs[i].nm.size + 1 := by rw [ByteArray.size_append]; rfl
    have hset := (Upd.refl [g2] w8).setCell (p := ⟨g2, i * 3, none⟩) (Value.string (xs[i].nm ++ (⟨#[120]⟩ : ByteArray))) (by simp)
    have hUx : Upd [] w (w8.setCell ⟨g2, i * 3, none⟩ (Value.string (xs[i].nm ++ (⟨#[120]⟩ : ByteArray)))) := hU8.trans hset (fun y hy => by simp at hy; exact .inr (by omega))
    have hRx := hR8.upd hset (by simpa using hne12)
    have hvx := view_set hC8 rfl i hi 0 (by omega) (.string (xs[i].nm ++ (⟨#[120]⟩ : ByteArray))) ⟨xs[i].nm ++ (⟨#[120]⟩ : ByteArray), xs[i].kind, xs[i].rs, xs[i].ar, xs[i].cp⟩ rfl
    rw [Nat.add_zero] at hvx
    have hal : Alt xs i hi ⟨xs[i].nm ++ (⟨#[120]⟩ : ByteArray), xs[i].kind, xs[i].rs, xs[i].ar, xs[i].cp⟩ := ⟨rfl, hk18, by show 0 < (xs[i].nm ++ (⟨#[120]⟩ : ByteArray)).size ∧ (xs[i].nm ++ (⟨#[120]⟩ : ByteArray)).size ≤ 40; omega⟩
    have hbd := fun rest => bad_name (v := v) (x := xs[i]) (x' := ⟨xs[i].nm ++ (⟨#[120]⟩ : ByteArray), xs[i].kind, xs[i].rs, xs[i].ar, xs[i].cp⟩) (fun e => by have h2 := congrArg ByteArray.size e; simp only at h2; omega) hn30 hk18 rest
    have hn := O2 _ g1 NA cg1 (some ⟨g2, 0, none⟩) c2 _ hal hbd hvx (hRx.view 0 YA (fun j v hj => by rw [Nat.zero_add]; exact hj)) HA.out hRx.cap.1 (hRx.lt g1 (by simp))
    with_reducible refine hn.mono ?_
    rintro e w20 ⟨rfl, hu20⟩
    clear hn
    have hU20 := hUx.trans hu20 (fun _ h => .inl h)
    have hR20 := hRx.upd hu20 (by simp)
    obtain ⟨k20, u20, s20⟩ := alloc_facts w20 (Obj.cells #[.bool false, .int .i64 0, .int .i64 0, .int .i64 0] 30)
    simp only [headV]
    go_wp2_with (first
      | ((with_reducible show wpList _ _ _ _ _ _); refine wpList_store_blk rfl 30 _ _ rfl (b := w20.heap.size) rfl k20 (cs := [.bool false, .int .i64 0, .int .i64 0, .int .i64 0]) rfl rfl (by kernel_rfl) (by simp [Value.oneCell']) ?_; intro w21 hb21 hu21; simp only [Act.put])
      | (go_at_call 10; apply stopHere))
    show Calls _ _ _ _ _
    have hu2021 : Upd [] w20 w21 := u20.trans hu21 (fun y hy => by simp at hy; exact .inr (by omega))
    have hU21 := hU20.trans hu2021 (fun _ h => .inl h)
    have hR21 := hR20.upd hu2021 (by simp)
    have hd := D1 _ (h1.upd hU21) g1 NA cg1 (by rw [List.append_nil]; exact hR21.view 0 YA (fun j v hj => by rw [Nat.zero_add]; exact hj)) (by rw [List.append_nil]; exact HA.out) hR21.cap.1 AllBytes.nil (hR21.lt g1 (by simp))
    with_reducible refine hd.mono ?_
    rintro e w22 hdec
    obtain ⟨ao22, c22, vs22, rfl, _, hu22⟩ := hdec.rows
    have hU22 := hU21.trans hu22 (fun _ h => .inl h)
    obtain ⟨k22, u22, s22⟩ := alloc_facts w22 (Obj.cells #[.bool false, .int .i64 0, .int .i64 0, .int .i64 0] 30)
    clear hd hdec
    simp only [headV, List.length_nil]
    go_wp2_with ((with_reducible show wpList _ _ _ _ _ _); refine wpList_store_blk rfl 30 _ _ rfl (b := w22.heap.size) rfl k22 (cs := [.bool (knB v false), .int .i64 (knI v 0), .int .i64 xs.length, .int .i64 (rowsOf xs)]) rfl rfl (by kernel_rfl) (by simp [Value.oneCell']) ?_; intro w23 hb23 hu23; simp only [Act.put])
    go_ret
    exact ⟨rfl, (hU22.trans u22 (fun _ h => .inl h)).trans hu23 (fun y hy => by simp at hy; have := hU22.size; exact .inr (by omega))⟩
  · skip
    have hcj := cells_at Rc.cells 3 Rc.cells_len (hC8.view 0 (xs.flatMap Rc.cells) (fun j v hj => by rw [Nat.zero_add]; exact hj)) i hi
    simp only [Nat.zero_add] at hcj
    have d0 : w8.cell? ⟨g2, i * 3, none⟩ = some (.string xs[i].nm) := by have := hcj 0 (by omega); rw [Nat.add_zero] at this; exact this
    have d1 : w8.cell? ⟨g2, i * 3 + 1, none⟩ = some (.int .i64 xs[i].kind) := hcj 1 (by omega)
    clear hcj
    have f0 := hC8.free (i * 3)
    have f1 := hC8.free (i * 3 + 1)
    have hxm : xs[i] ∈ xs := List.getElem_mem _
    have hk18 := hf1.k _ hxm
    have hn30 := hf1.nm _ hxm
    by_cases hk12 : 12 < xs[i].kind
    · go_wp2
      go_ret
      exact ⟨rfl, hU8⟩
    · have hkm : xs[i].kind.tmod 12 = xs[i].kind % 12 := Int.tmod_eq_emod_of_nonneg (by omega)
      have hkw : IntKind.i64.wrap (xs[i].kind % 12) = xs[i].kind % 12 := IntWalk.i64_in _ (by omega)
      have hkw2 : IntKind.i64.wrap (1 + xs[i].kind % 12) = 1 + xs[i].kind % 12 := IntWalk.i64_in _ (by omega)
      obtain ⟨K, hK⟩ : ∃ K, K = xs[i].kind := ⟨_, rfl⟩
      rw [← hK] at d1 hk12 hkm hkw hkw2 hk18
      obtain ⟨K2, hK2⟩ : ∃ K2, K2 = 1 + K % 12 := ⟨_, rfl⟩
      have HK := Lib.hid hK
      clear hK
      go_wp2_with (go_at_call 10; apply stopHere)
      show Calls _ _ _ _ _
      have hset := (Upd.refl [g2] w8).setCell (p := ⟨g2, i * 3 + 1, none⟩) (Value.int .i64 (1 + K % 12)) (by simp)
      have hUx : Upd [] w (w8.setCell ⟨g2, i * 3 + 1, none⟩ (Value.int .i64 (1 + K % 12))) := hU8.trans hset (fun y hy => by simp at hy; exact .inr (by omega))
      have hRx := hR8.upd hset (by simpa using hne12)
      have hvx := view_set hC8 rfl i hi 1 (by omega) (.int .i64 (1 + K % 12)) ⟨xs[i].nm, 1 + K % 12, xs[i].rs, xs[i].ar, xs[i].cp⟩ rfl
      have hal : Alt xs i hi ⟨xs[i].nm, 1 + K % 12, xs[i].rs, xs[i].ar, xs[i].cp⟩ := ⟨rfl, by show 1 ≤ 1 + K % 12 ∧ 1 + K % 12 ≤ 18; omega, by show 0 < xs[i].nm.size ∧ xs[i].nm.size ≤ 40; omega⟩
      have hcl := clash_next K hk18.1 (by omega)
      have hbd := fun rest => bad_type (v := v) (x := xs[i]) (x' := ⟨xs[i].nm, 1 + K % 12, xs[i].rs, xs[i].ar, xs[i].cp⟩) rfl (by rw [← HK.out]; exact hk18) (by rw [← HK.out]; exact hcl) rest
      have hn := O2 _ g1 NA cg1 (some ⟨g2, 0, none⟩) c2 _ hal hbd hvx (hRx.view 0 YA (fun j v hj => by rw [Nat.zero_add]; exact hj)) HA.out hRx.cap.1 (hRx.lt g1 (by simp))
      with_reducible refine hn.mono ?_
      rintro e w20 ⟨rfl, hu20⟩
      clear hn
      have hU20 := hUx.trans hu20 (fun _ h => .inl h)
      have hR20 := hRx.upd hu20 (by simp)
      obtain ⟨k20, u20, s20⟩ := alloc_facts w20 (Obj.cells #[.bool false, .int .i64 0, .int .i64 0, .int .i64 0] 30)
      simp only [headV]
      go_wp2_with (first
        | ((with_reducible show wpList _ _ _ _ _ _); refine wpList_store_blk rfl 30 _ _ rfl (b := w20.heap.size) rfl k20 (cs := [.bool false, .int .i64 0, .int .i64 0, .int .i64 0]) rfl rfl (by kernel_rfl) (by simp [Value.oneCell']) ?_; intro w21 hb21 hu21; simp only [Act.put])
        | (go_at_call 10; apply stopHere))
      show Calls _ _ _ _ _
      have hu2021 : Upd [] w20 w21 := u20.trans hu21 (fun y hy => by simp at hy; exact .inr (by omega))
      have hU21 := hU20.trans hu2021 (fun _ h => .inl h)
      have hR21 := hR20.upd hu2021 (by simp)
      have hd := D1 _ (h1.upd hU21) g1 NA cg1 (by rw [List.append_nil]; exact hR21.view 0 YA (fun j v hj => by rw [Nat.zero_add]; exact hj)) (by rw [List.append_nil]; exact HA.out) hR21.cap.1 AllBytes.nil (hR21.lt g1 (by simp))
      with_reducible refine hd.mono ?_
      rintro e w22 hdec
      obtain ⟨ao22, c22, vs22, rfl, _, hu22⟩ := hdec.rows
      have hU22 := hU21.trans hu22 (fun _ h => .inl h)
      obtain ⟨k22, u22, s22⟩ := alloc_facts w22 (Obj.cells #[.bool false, .int .i64 0, .int .i64 0, .int .i64 0] 30)
      clear hd hdec
      simp only [headV, List.length_nil]
      go_wp2_with ((with_reducible show wpList _ _ _ _ _ _); refine wpList_store_blk rfl 30 _ _ rfl (b := w22.heap.size) rfl k22 (cs := [.bool (knB v false), .int .i64 (knI v 0), .int .i64 xs.length, .int .i64 (rowsOf xs)]) rfl rfl (by kernel_rfl) (by simp [Value.oneCell']) ?_; intro w23 hb23 hu23; simp only [Act.put])
      go_ret
      exact ⟨rfl, (hU22.trans u22 (fun _ h => .inl h)).trans hu23 (fun y hy => by simp at hy; have := hU22.size; exact .inr (by omega))⟩
end Go.Proofs.YtfbohkbpgfnceaaGreatDoor
