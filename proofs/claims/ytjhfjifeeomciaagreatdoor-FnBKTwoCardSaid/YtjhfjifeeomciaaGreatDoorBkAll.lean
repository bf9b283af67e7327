/- impl.BKDecode of a block without columns. -/
import Derived.Test.YtjhfjifeeomciaaGreatDoorMA
namespace Go.Proofs.YtjhfjifeeomciaaGreatDoor
set_option linter.unusedVariables false
set_option linter.unusedSimpArgs false
open Go Go.RowKit
set_option maxRecDepth 100000 in
theorem caught_idle (p : Addr) (w : World) :
    CallsD Tryz.prog 34 #[.pointer (some p)] .returning w fun e u' w' => e = .returned (.tuple #[]) ∧ u' = .returning ∧ w' = w := by
  refine callsD_of_wpS Tryz.func34 rfl fun c₀ cs hu => ?_
  apply wpS_seq
  apply wpS_region
  simp [wpOpsS, go_sem, recoverD, hu, Tryz.ntmps34, Exit.thenS]
  refine wpS_cond (t := false) (by simp [Act.eval, Array.replicate]) ?_
  simp only [Bool.false_eq_true, if_false]
  refine wpS_of_wp (wp_skip ?_)
  cases c₀
  simp_all [bodyPostS, results, Tryz.results34]
set_option maxRecDepth 100000 in
set_option maxHeartbeats 400000 in
theorem NewReader (ad : Option Addr) (n c : Nat) (w : World) : Calls Tryz.prog 35 #[.slice ad n c] w fun e w' => e = .returned (.pointer (some ⟨w.heap.size + 1, 0, none⟩)) ∧ w' = (w.alloc (.cells #[.slice none 0 0] 48)).alloc (.cells #[.slice ad n c, .pointer (some ⟨w.heap.size, 0, none⟩)] 222) := by
  go_enter Tryz.func35, Tryz.ntmps35
  go_wp2
  go_ret
  exact ⟨rfl, rfl⟩
set_option maxRecDepth 100000 in
set_option maxHeartbeats 400000 in
theorem Left0 (rd bf d : Nat) (ao : Option Addr) (bs : List Value) (w : World) (h : Rdr w rd bf d ao bs) : Calls Tryz.prog 38 #[.pointer (some ⟨rd, 0, none⟩)] w fun e w' => e = .returned (.int .i64 bs.length) ∧ w' = w := by
  obtain ⟨o, c, hb, _, _⟩ := h.blk
  have q0 : w.cell? ⟨rd, 0, none⟩ = some (.slice (some ⟨d, o, none⟩) bs.length c) := by simp [World.cell?, hb]
  clear hb
  go_enter Tryz.func38, Tryz.ntmps38
  go_wp2
  go_ret
  exact ⟨rfl, rfl⟩
set_option maxRecDepth 100000 in
set_option maxHeartbeats 1000000 in
theorem head_of (ov : Bool) (b c r : Int) (w : World) : Calls Tryz.prog 37 #[.agg #[.bool ov, .int .i64 b, .int .i64 c, .int .i64 r]] w fun e w' => e = .returned (headV ov b c r) ∧ Upd [] w w' := by
  obtain ⟨k1, u1, s1⟩ := alloc_facts w (Obj.cells #[.bool ov, .int .i64 b, .int .i64 c, .int .i64 r] 54)
  obtain ⟨k2, u2, s2⟩ := alloc_facts (w.alloc (Obj.cells #[.bool ov, .int .i64 b, .int .i64 c, .int .i64 r] 54)) (Obj.cells #[.bool false, .int .i64 0, .int .i64 0, .int .i64 0] 30)
  have k1' := u2.at k1 (by simp)
  rw [s1] at k2
  obtain ⟨p0, p1, p2, p3, _⟩ := blk_cells k1'
  go_enter Tryz.func37, Tryz.ntmps37
  go_wp2_with ((with_reducible show wpList _ _ _ _ _ _); refine wpList_store_blk rfl 30 (.tmp 2) (.tmp 13) rfl (b := w.heap.size + 1) rfl k2 (cs := [.bool ov, .int .i64 b, .int .i64 c, .int .i64 r]) rfl rfl (by kernel_rfl) (by simp [Value.oneCell']) ?_; intro w4 hb4 hu4; simp only [Act.put])
  refine bodyPost_ret (v := headV ov b c r) (results_cell1 Tryz.results37 (b := w.heap.size + 1) rfl (run_loadVar_mid w4 (w.heap.size + 1) 0 30 [.bool ov, .int .i64 b, .int .i64 c, .int .i64 r] _ (rangeAt_blk hb4) Tryz.underlying30 rfl (by kernel_rfl))) rfl ⟨rfl, ?_⟩
  exact (u1.trans u2 (fun _ h => .inl h)).trans hu4 (fun y hy => by simp at hy; exact .inr (by omega))
/-- what a version knows of the head -/
def knownC (v : Int) (ov : Bool) (b : Int) : List Value := if 51903 ≤ v then [.bool ov, .int .i64 b, .int .i64 0, .int .i64 0] else [.bool false, .int .i64 0, .int .i64 0, .int .i64 0]
theorem knownC_len (v : Int) (ov : Bool) (b : Int) : (knownC v ov b).length = 4 := by unfold knownC; split <;> rfl
theorem knownC_one (v : Int) (ov : Bool) (b : Int) : ∀ u ∈ knownC v ov b, u.oneCell' = true := by
  intro u hu
  unfold knownC at hu
  split at hu <;> (simp at hu; rcases hu with rfl | rfl | rfl) <;> rfl
def knownB (v : Int) (ov : Bool) (b : Int) : Obj := if 51903 ≤ v then blkC ov b 0 0 else blkC false 0 0 0
set_option maxRecDepth 100000 in
set_option maxHeartbeats 1000000 in
theorem bkClosure (kb rd bf d vb : Nat) (ao : Option Addr) (ov : Bool) (b v : Int) (hb : -2147483648 ≤ b ∧ b < 2147483648) (tgt : Value) (w : World) (h : Rdr w rd bf d ao (blockV v ov b)) (hk : w.heap[kb]? = some (blkC false 0 0 0)) (ho : Off kb rd bf d ao)
    (hv : w.cell? ⟨vb, 0, none⟩ = some (.int .i64 v)) :
    Calls Tryz.prog 19 #[.pointer (some ⟨kb, 0, none⟩), .pointer (some ⟨rd, 0, none⟩), tgt, .pointer (some ⟨vb, 0, none⟩)] w fun e w' => e = .returned .nilIface ∧ w'.heap[kb]? = some (knownB v ov b) ∧ ReadsK w w' kb rd bf d ao [] := by
  go_enter Tryz.func19, Tryz.ntmps19
  go_wp2_with (go_at_call 20; (refine (DecodeBlock0 kb rd bf d ao ov b v hb tgt _ h hk ho).mono ?_); rintro e w1 ⟨rfl, hB1, hK1⟩)
  go_ret
  exact ⟨rfl, hB1, hK1⟩
set_option maxRecDepth 100000 in
set_option maxHeartbeats 2000000 in
theorem decode0 (d N c vb : Nat) (ov : Bool) (b v : Int) (hb : -2147483648 ≤ b ∧ b < 2147483648) (w : World) (hN : N = (blockV v ov b).length) (hrow : Row w 5 1 (some ⟨d, 0, none⟩) N c (blockV v ov b)) (hv : w.cell? ⟨vb, 0, none⟩ = some (.int .i64 v)) :
    Calls Tryz.prog 18 #[.slice (some ⟨d, 0, none⟩) N c, .slice none 0 0, .func (Fn.func 19) #[] #[.pointer (some ⟨vb, 0, none⟩)]] w fun e w' => e = .returned (.tuple #[.agg (knownC v ov b).toArray, .slice none 0 0, .int .i64 0, .bool true]) ∧ Upd [] w w' := by
  have ld := hrow.lt d (by simp)
  have hNc := hrow.cap.1
  have hr := hrow.view 0 (blockV v ov b) (fun j v hj => by rw [Nat.zero_add]; exact hj)
  have hvl := World.block_lt_of_cell? w _ hv
  have HN := Lib.hid hN
  have hkn : ∃ (ov' : Bool) (b' : Int), knownC v ov b = [.bool ov', .int .i64 b', .int .i64 0, .int .i64 0] := by
    unfold knownC
    split
    · exact ⟨_, _, rfl⟩
    · exact ⟨_, _, rfl⟩
  obtain ⟨ov', b', hkn⟩ := hkn
  rw [hkn]
  clear hN hrow
  go_enter_defers Tryz.func18, Tryz.ntmps18
  go_wp2
  go_loopw [7, 10, 11, 21] (fun a s l i wr => a = .slice none 0 0 ∧ s = .slice none 0 0 ∧ l = .slice none 0 0 ∧ i = .int .i64 0 ∧ wr = (w.alloc (Obj.cells #[.bool false, .int .i64 0, .int .i64 0, .int .i64 0] 30)).alloc (Obj.cells #[.bool false] 4)) (fun _ _ _ _ _ => 0)
  case atStart => exact ⟨rfl, rfl, rfl, rfl, rfl⟩
  case round =>
    obtain ⟨rfl, rfl, rfl, rfl, hw⟩ := hrel
    subst hw
    go_wp2_with (first
      | (go_at_call 35; (refine (NewReader _ _ _ _).mono ?_); rintro e w2 ⟨rfl, rfl⟩)
      | (go_at_call 19; apply stopHere))
    show Calls _ _ _ _ _
    obtain ⟨k1, u1, s1⟩ := alloc_facts w (Obj.cells #[.bool false, .int .i64 0, .int .i64 0, .int .i64 0] 30)
    obtain ⟨k2, u2, s2⟩ := alloc_facts (w.alloc (Obj.cells #[.bool false, .int .i64 0, .int .i64 0, .int .i64 0] 30)) (Obj.cells #[.bool false] 4)
    obtain ⟨k3, u3, s3⟩ := alloc_facts ((w.alloc (Obj.cells #[.bool false, .int .i64 0, .int .i64 0, .int .i64 0] 30)).alloc (Obj.cells #[.bool false] 4)) (Obj.cells #[.bool false, .int .i64 0, .int .i64 0, .int .i64 0] 54)
    obtain ⟨k4, u4, s4⟩ := alloc_facts (((w.alloc (Obj.cells #[.bool false, .int .i64 0, .int .i64 0, .int .i64 0] 30)).alloc (Obj.cells #[.bool false] 4)).alloc (Obj.cells #[.bool false, .int .i64 0, .int .i64 0, .int .i64 0] 54)) (Obj.cells #[.slice none 0 0] 48)
    obtain ⟨k5, u5, s5⟩ := alloc_facts ((((w.alloc (Obj.cells #[.bool false, .int .i64 0, .int .i64 0, .int .i64 0] 30)).alloc (Obj.cells #[.bool false] 4)).alloc (Obj.cells #[.bool false, .int .i64 0, .int .i64 0, .int .i64 0] 54)).alloc (Obj.cells #[.slice none 0 0] 48)) (Obj.cells #[.slice (some ⟨d, 0, none⟩) N c, .pointer (some ⟨w.heap.size + 1 + 1 + 1, 0, none⟩)] 222)
    generalize ((((w.alloc (Obj.cells #[.bool false, .int .i64 0, .int .i64 0, .int .i64 0] 30)).alloc (Obj.cells #[.bool false] 4)).alloc (Obj.cells #[.bool false, .int .i64 0, .int .i64 0, .int .i64 0] 54)).alloc (Obj.cells #[.slice none 0 0] 48)).alloc (Obj.cells #[.slice (some ⟨d, 0, none⟩) N c, .pointer (some ⟨w.heap.size + 1 + 1 + 1, 0, none⟩)] 222) = W5 at *
    generalize (((w.alloc (Obj.cells #[.bool false, .int .i64 0, .int .i64 0, .int .i64 0] 30)).alloc (Obj.cells #[.bool false] 4)).alloc (Obj.cells #[.bool false, .int .i64 0, .int .i64 0, .int .i64 0] 54)).alloc (Obj.cells #[.slice none 0 0] 48) = W4 at *
    generalize ((w.alloc (Obj.cells #[.bool false, .int .i64 0, .int .i64 0, .int .i64 0] 30)).alloc (Obj.cells #[.bool false] 4)).alloc (Obj.cells #[.bool false, .int .i64 0, .int .i64 0, .int .i64 0] 54) = W3 at *
    generalize (w.alloc (Obj.cells #[.bool false, .int .i64 0, .int .i64 0, .int .i64 0] 30)).alloc (Obj.cells #[.bool false] 4) = W2 at *
    generalize w.alloc (Obj.cells #[.bool false, .int .i64 0, .int .i64 0, .int .i64 0] 30) = W1 at *
    rw [s1] at k2 s2
    rw [s2] at k3 s3
    rw [s3] at k4 s4
    rw [s4] at k5 s5
    have c1 := u5.at (u4.at (u3.at (u2.at k1 (by simp)) (by simp)) (by simp)) (by simp)
    have c2 := u5.at (u4.at (u3.at k2 (by simp)) (by simp)) (by simp)
    have c3 := u5.at (u4.at k3 (by simp)) (by simp)
    have c4 := u5.at k4 (by simp)
    have uw : Upd [] w W5 := (((u1.trans u2 (fun _ h => .inl h)).trans u3 (fun _ h => .inl h)).trans u4 (fun _ h => .inl h)).trans u5 (fun _ h => .inl h)
    have hr5 := uw.range hr ld (by simp)
    have hv5 : W5.cell? ⟨vb, 0, none⟩ = some (.int .i64 v) := uw.cell1 hv (by simp)
    clear u1 u2 u3 u4 u5 k1 k2 k3 k4 s1 s2 s3 s4
    have hRd : Rdr W5 (w.heap.size + 1 + 1 + 1 + 1) (w.heap.size + 1 + 1 + 1) d none (blockV v ov b) :=
      ⟨⟨0, c, by rw [← HN.out]; exact k5, by rw [← HN.out]; exact hNc, hr5⟩, blockV_bytes _ _ _, Nat.lt_of_lt_of_le ld uw.size, ⟨0, 0, [], ⟨c4, Row.nil, by simp⟩⟩, by omega, by omega, by omega, by simp, by simp⟩
    have hOff : Off (w.heap.size + 1 + 1) (w.heap.size + 1 + 1 + 1 + 1) (w.heap.size + 1 + 1 + 1) d none := ⟨by omega, by omega, by omega, by simp⟩
    refine (bkClosure (w.heap.size + 1 + 1) (w.heap.size + 1 + 1 + 1 + 1) (w.heap.size + 1 + 1 + 1) d vb none ov b v hb _ W5 hRd c3 hOff hv5).mono ?_
    rintro e w6 ⟨rfl, hB6, ao6, hR6, hU6, hI6⟩
    dsimp only
    have hin : ∀ x, x < (w.heap.size + 1 + 1) → x ∉ (w.heap.size + 1 + 1) :: rdF (w.heap.size + 1 + 1 + 1 + 1) (w.heap.size + 1 + 1 + 1) none := fun x hx hx' => by
      simp [rdF] at hx'; omega
    have d1 := hU6.at c1 (hin _ (by omega))
    have d2 := hU6.at c2 (hin _ (by omega))
    have hB6' : w6.rangeAt (w.heap.size + 1 + 1) 0 (knownC v ov b) := by
      unfold knownB at hB6
      unfold knownC
      by_cases hvv : 51903 ≤ v
      · rw [if_pos hvv] at hB6 ⊢
        exact rangeAt_blk hB6
      · rw [if_neg hvv] at hB6 ⊢
        exact rangeAt_blk hB6
    rw [hkn] at hB6'
    clear hB6 hkn k5 c1 c2 c3 c4 hr5 hRd hOff
    go_wp2
    go_loopw [7, 54] (fun s i wr => s = .slice none 0 0 ∧ i = .int .i64 0 ∧ wr = w6) (fun _ _ _ => 0)
    case atStart => exact ⟨rfl, rfl, rfl⟩
    case round =>
      obtain ⟨rfl, rfl, hw⟩ := hrel
      subst hw
      go_wp2_with (first
        | ((with_reducible show wpList _ _ _ _ _ _); refine wpList_load_mid rfl 54 (.tmp 15) rfl (w.heap.size + 1 + 1) 0 rfl [.bool ov', .int .i64 b', .int .i64 0, .int .i64 0] _ hB6' Tryz.underlying54 rfl (by kernel_rfl) ?_)
        | (go_at_call 37; (refine (head_of ov' b' 0 0 _).mono ?_); rintro e w7 ⟨rfl, hu7⟩; have hR7 := hR6.kept hu7 (by simp); have e1 := hu7.at d1 (by simp); have e2 := hu7.at d2 (by simp))
        | (go_at_call 38; (refine (Left0 _ _ _ _ _ _ hR7).mono ?_); rintro e w8 ⟨rfl, rfl⟩)
        | ((with_reducible show wpList _ _ _ _ _ _); refine wpList_store_blk rfl 30 (.tmp 6) (.tmp 65) rfl (b := w.heap.size) rfl e1 (cs := [.bool ov', .int .i64 b', .int .i64 0, .int .i64 0]) rfl rfl (by kernel_rfl) (by simp [Value.oneCell']) ?_; intro w9 hb9 hu9; simp only [Act.put]; have e3 := hu9.at e2 (by simp); have g3 := cell_of_one e3; have f3 := free_of_one e3))
      have huA : Upd [] w w9 := ((uw.trans hU6 (fun y hy => .inr (by simp [rdF] at hy; omega))).trans hu7 (fun _ h => .inl h)).trans hu9 (fun y hy => .inr (by simp at hy; omega))
      have huB := huA.setCell (p := ⟨w.heap.size + 1, 0, none⟩) (Value.bool true) (.inr (by show w.heap.size ≤ w.heap.size + 1; omega))
      have hcB := cell_of_one (one_setCell (u := .bool true) e3)
      have z0 : w9.cell? ⟨w.heap.size, 0, none⟩ = some (.bool ov') := (cellAt hb9 0).trans rfl
      have z1 : w9.cell? ⟨w.heap.size, 1, none⟩ = some (.int .i64 b') := (cellAt hb9 1).trans rfl
      have z2 : w9.cell? ⟨w.heap.size, 2, none⟩ = some (.int .i64 0) := (cellAt hb9 2).trans rfl
      have z3 : w9.cell? ⟨w.heap.size, 3, none⟩ = some (.int .i64 0) := (cellAt hb9 3).trans rfl
      refine leaves_cons (f := 34) (args := #[.pointer (some ⟨w.heap.size + 1, 0, none⟩)]) (by simp) (by simp [go_sem]) ?_
      refine (caught_idle ⟨w.heap.size + 1, 0, none⟩ _).mono ?_
      rintro e u' w'' ⟨rfl, rfl, rfl⟩
      simp [Leaves, settle, results, Tryz.results18, go_sem, hcB, z0, z1, z2, z3]
      exact huB
set_option maxRecDepth 100000 in
set_option maxHeartbeats 1000000 in
theorem BKDecode0 (d N c : Nat) (ov : Bool) (b v : Int) (hb : -2147483648 ≤ b ∧ b < 2147483648) (w : World) (hN : N = (blockV v ov b).length) (hrow : Row w 5 1 (some ⟨d, 0, none⟩) N c (blockV v ov b)) :
    Calls Tryz.prog 10 #[.slice (some ⟨d, 0, none⟩) N c, .int .i64 v, .slice none 0 0] w fun e w' => e = .returned (.tuple #[.agg (knownC v ov b).toArray, .slice none 0 0, .int .i64 0, .bool true]) ∧ Upd [] w w' := by
  have hmf : ∀ (fn : Fn) (first cap : Array Value) (w : World), (Instr.makeFunc fn first cap).run Tryz.prog w = .ok (.func fn first cap) w := fun _ _ _ _ => rfl
  obtain ⟨k1, u1, s1⟩ := alloc_facts w (Obj.cells #[.int .i64 v] 3)
  obtain ⟨k2, u2, s2⟩ := alloc_facts (w.alloc (Obj.cells #[.int .i64 v] 3)) (Obj.cells #[.bool false, .int .i64 0, .int .i64 0, .int .i64 0] 30)
  rw [s1] at k2
  have u12 := u1.trans u2 (fun _ h => .inl h)
  have hrow2 := hrow.upd u12 (by simp)
  have hv2 := cell_of_one (u2.at k1 (by simp))
  have hkn : ∃ (ov' : Bool) (b' : Int), knownC v ov b = [.bool ov', .int .i64 b', .int .i64 0, .int .i64 0] := by
    unfold knownC
    split
    · exact ⟨_, _, rfl⟩
    · exact ⟨_, _, rfl⟩
  obtain ⟨ov', b', hkn⟩ := hkn
  have hd := decode0 d N c w.heap.size ov b v hb _ hN hrow2 hv2
  rw [hkn] at hd ⊢
  clear hkn hN hrow hrow2 hv2
  go_enter Tryz.func10, Tryz.ntmps10
  go_wp2_with (first
    | (go_at_call 18; (refine hd.mono ?_); rintro e w3 ⟨rfl, hu3⟩; have k3 := hu3.at k2 (by simp))
    | ((with_reducible show wpList _ _ _ _ _ _); refine wpList_store_blk rfl 30 (.tmp 6) (.tmp 14) rfl (b := w.heap.size + 1) rfl k3 (cs := [.bool ov', .int .i64 b', .int .i64 0, .int .i64 0]) rfl rfl (by kernel_rfl) (by simp [Value.oneCell']) ?_; intro w4 hb4 hu4; simp only [Act.put]))
  have z0 : w4.cell? ⟨w.heap.size + 1, 0, none⟩ = some (.bool ov') := (cellAt hb4 0).trans rfl
  have z1 : w4.cell? ⟨w.heap.size + 1, 1, none⟩ = some (.int .i64 b') := (cellAt hb4 1).trans rfl
  have z2 : w4.cell? ⟨w.heap.size + 1, 2, none⟩ = some (.int .i64 0) := (cellAt hb4 2).trans rfl
  have z3 : w4.cell? ⟨w.heap.size + 1, 3, none⟩ = some (.int .i64 0) := (cellAt hb4 3).trans rfl
  have huA : Upd [] w w4 := (u12.trans hu3 (fun _ h => .inl h)).trans hu4 (fun y hy => .inr (by simp at hy; omega))
  refine bodyPost_ret (v := .tuple #[.agg #[.bool ov', .int .i64 b', .int .i64 0, .int .i64 0], .slice none 0 0, .int .i64 0, .bool true]) ?_ rfl ⟨rfl, huA⟩
  simp [results, Tryz.results10, go_sem, z0, z1, z2, z3]
end Go.Proofs.YtjhfjifeeomciaaGreatDoor
