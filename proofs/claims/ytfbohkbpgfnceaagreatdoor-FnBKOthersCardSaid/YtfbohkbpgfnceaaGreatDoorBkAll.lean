/- impl.BKDecode of a block without columns. -/
import Derived.Test.YtfbohkbpgfnceaaGreatDoorMA
namespace Go.Proofs.YtfbohkbpgfnceaaGreatDoor
set_option linter.unusedVariables false
set_option linter.unusedSimpArgs false
open Go Go.RowKit
set_option maxRecDepth 100000 in
theorem caught_idle (p : Addr) (w : World) :
    CallsD Tryz.prog 28 #[.pointer (some p)] .returning w fun e u' w' => e = .returned (.tuple #[]) ∧ u' = .returning ∧ w' = w := by
  refine callsD_of_wpS Tryz.func28 rfl fun c₀ cs hu => ?_
  apply wpS_seq
  apply wpS_region
  simp [wpOpsS, go_sem, recoverD, hu, Tryz.ntmps28, Exit.thenS]
  refine wpS_cond (t := false) (by simp [Act.eval, Array.replicate]) ?_
  simp only [Bool.false_eq_true, if_false]
  refine wpS_of_wp (wp_skip ?_)
  cases c₀
  simp_all [bodyPostS, results, Tryz.results28]
set_option maxRecDepth 100000 in
set_option maxHeartbeats 400000 in
theorem NewReader (ad : Option Addr) (n c : Nat) (w : World) : Calls Tryz.prog 29 #[.slice ad n c] w fun e w' => e = .returned (.pointer (some ⟨w.heap.size + 1, 0, none⟩)) ∧ w' = (w.alloc (.cells #[.slice none 0 0] 46)).alloc (.cells #[.slice ad n c, .pointer (some ⟨w.heap.size, 0, none⟩)] 216) := by
  go_enter Tryz.func29, Tryz.ntmps29
  go_wp2
  go_ret
  exact ⟨rfl, rfl⟩
set_option maxRecDepth 100000 in
set_option maxHeartbeats 400000 in
theorem Left0 (rd bf d : Nat) (ao : Option Addr) (bs : List Value) (w : World) (h : Rdr w rd bf d ao bs) : Calls Tryz.prog 32 #[.pointer (some ⟨rd, 0, none⟩)] w fun e w' => e = .returned (.int .i64 bs.length) ∧ w' = w := by
  obtain ⟨o, c, hb, _, _⟩ := h.blk
  have q0 : w.cell? ⟨rd, 0, none⟩ = some (.slice (some ⟨d, o, none⟩) bs.length c) := by simp [World.cell?, hb]
  clear hb
  go_enter Tryz.func32, Tryz.ntmps32
  go_wp2
  go_ret
  exact ⟨rfl, rfl⟩
set_option maxRecDepth 100000 in
set_option maxHeartbeats 1000000 in
theorem head_of (ov : Bool) (b c r : Int) (w : World) : Calls Tryz.prog 31 #[.agg #[.bool ov, .int .i64 b, .int .i64 c, .int .i64 r]] w fun e w' => e = .returned (headV ov b c r) ∧ Upd [] w w' := by
  obtain ⟨k1, u1, s1⟩ := alloc_facts w (Obj.cells #[.bool ov, .int .i64 b, .int .i64 c, .int .i64 r] 52)
  obtain ⟨k2, u2, s2⟩ := alloc_facts (w.alloc (Obj.cells #[.bool ov, .int .i64 b, .int .i64 c, .int .i64 r] 52)) (Obj.cells #[.bool false, .int .i64 0, .int .i64 0, .int .i64 0] 30)
  have k1' := u2.at k1 (by simp)
  rw [s1] at k2
  obtain ⟨p0, p1, p2, p3, _⟩ := blk_cells k1'
  go_enter Tryz.func31, Tryz.ntmps31
  go_wp2_with ((with_reducible show wpList _ _ _ _ _ _); refine wpList_store_blk rfl 30 (.tmp 2) (.tmp 13) rfl (b := w.heap.size + 1) rfl k2 (cs := [.bool ov, .int .i64 b, .int .i64 c, .int .i64 r]) rfl rfl (by kernel_rfl) (by simp [Value.oneCell']) ?_; intro w4 hb4 hu4; simp only [Act.put])
  refine bodyPost_ret (v := headV ov b c r) (results_cell1 Tryz.results31 (b := w.heap.size + 1) rfl (run_loadVar_mid w4 (w.heap.size + 1) 0 30 [.bool ov, .int .i64 b, .int .i64 c, .int .i64 r] _ (rangeAt_blk hb4) Tryz.underlying30 rfl (by kernel_rfl))) rfl ⟨rfl, ?_⟩
  exact (u1.trans u2 (fun _ h => .inl h)).trans hu4 (fun y hy => by simp at hy; exact .inr (by omega))
/-- what a version knows of the head -/
def knownC (v : Int) (ov : Bool) (b : Int) : List Value := if 51903 ≤ v then [.bool ov, .int .i64 b, .int .i64 0, .int .i64 0] else [.bool false, .int .i64 0, .int .i64 0, .int .i64 0]
theorem knownC_len (v : Int) (ov : Bool) (b : Int) : (knownC v ov b).length = 4 := by unfold knownC; split <;> rfl
theorem knownC_one (v : Int) (ov : Bool) (b : Int) : ∀ u ∈ knownC v ov b, u.oneCell' = true := by
  intro u hu
  unfold knownC at hu
  split at hu <;> (simp at hu; rcases hu with rfl | rfl | rfl) <;> rfl
def knownB (v : Int) (ov : Bool) (b : Int) : Obj := if 51903 ≤ v then blkC ov b 0 0 else blkC false 0 0 0
end Go.Proofs.YtfbohkbpgfnceaaGreatDoor
