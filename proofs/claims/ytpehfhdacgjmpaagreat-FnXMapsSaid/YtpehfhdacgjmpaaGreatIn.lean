/- How a row, or bytes, become what a column holds. -/
import Derived.Test.YtpehfhdacgjmpaaGreatColsArr
import Derived.Test.YtpehfhdacgjmpaaGreatAdds
namespace Go.Proofs.YtpehfhdacgjmpaaGreat
open Go Go.RowKit
theorem replicate_step (k : Nat) (h : k < 16) : List.replicate (16 - k) (Value.int .u8 0) = .int .u8 0 :: List.replicate (16 - (k + 1)) (Value.int .u8 0) := by
  have : 16 - k = (16 - (k + 1)) + 1 := by omega
  rw [this, List.replicate_succ]
theorem set_zeros {xs : List Value} {k : Nat} (hx : xs.length = k) (h : k < 16) (u : Value) : (xs ++ List.replicate (16 - k) (Value.int .u8 0)).set k u = xs ++ [u] ++ List.replicate (16 - (k + 1)) (Value.int .u8 0) := by
  rw [replicate_step k h, List.set_append_right _ _ (by omega), hx, Nat.sub_self]
  simp

set_option maxRecDepth 100000 in
set_option maxHeartbeats 400000 in
theorem bytes16 (r : R4) (w : World) : Calls Tryz.prog 123 #[r.agg] w fun e w' => e = .returned (.agg (lowV r.a r.b 16).toArray) ∧ Upd [] w w' := by
  obtain ⟨a, b, c, d⟩ := r
  go_enter Tryz.func123, Tryz.ntmps123
  simp only [R4.agg]
  go_wp2
  obtain ⟨k1, u1, s1⟩ := alloc_facts w (Obj.cells #[.int .u64 a, .int .u64 b, .int .u64 c, .int .u64 d] 28)
  obtain ⟨k2, u2, s2⟩ := alloc_facts (w.alloc (Obj.cells #[.int .u64 a, .int .u64 b, .int .u64 c, .int .u64 d] 28)) (Obj.cells #[.int .u8 0, .int .u8 0, .int .u8 0, .int .u8 0, .int .u8 0, .int .u8 0, .int .u8 0, .int .u8 0, .int .u8 0, .int .u8 0, .int .u8 0, .int .u8 0, .int .u8 0, .int .u8 0, .int .u8 0, .int .u8 0] 247)
  obtain ⟨k3, u3, s3⟩ := alloc_facts ((w.alloc (Obj.cells #[.int .u64 a, .int .u64 b, .int .u64 c, .int .u64 d] 28)).alloc (Obj.cells #[.int .u8 0, .int .u8 0, .int .u8 0, .int .u8 0, .int .u8 0, .int .u8 0, .int .u8 0, .int .u8 0, .int .u8 0, .int .u8 0, .int .u8 0, .int .u8 0, .int .u8 0, .int .u8 0, .int .u8 0, .int .u8 0] 247)) (Obj.cells #[.int .u8 0, .int .u8 0, .int .u8 0, .int .u8 0, .int .u8 0, .int .u8 0, .int .u8 0, .int .u8 0, .int .u8 0, .int .u8 0, .int .u8 0, .int .u8 0, .int .u8 0, .int .u8 0, .int .u8 0, .int .u8 0] 247)
  generalize ((w.alloc (Obj.cells #[.int .u64 a, .int .u64 b, .int .u64 c, .int .u64 d] 28)).alloc (Obj.cells #[.int .u8 0, .int .u8 0, .int .u8 0, .int .u8 0, .int .u8 0, .int .u8 0, .int .u8 0, .int .u8 0, .int .u8 0, .int .u8 0, .int .u8 0, .int .u8 0, .int .u8 0, .int .u8 0, .int .u8 0, .int .u8 0] 247)).alloc (Obj.cells #[.int .u8 0, .int .u8 0, .int .u8 0, .int .u8 0, .int .u8 0, .int .u8 0, .int .u8 0, .int .u8 0, .int .u8 0, .int .u8 0, .int .u8 0, .int .u8 0, .int .u8 0, .int .u8 0, .int .u8 0, .int .u8 0] 247) = W3 at *
  generalize (w.alloc (Obj.cells #[.int .u64 a, .int .u64 b, .int .u64 c, .int .u64 d] 28)).alloc (Obj.cells #[.int .u8 0, .int .u8 0, .int .u8 0, .int .u8 0, .int .u8 0, .int .u8 0, .int .u8 0, .int .u8 0, .int .u8 0, .int .u8 0, .int .u8 0, .int .u8 0, .int .u8 0, .int .u8 0, .int .u8 0, .int .u8 0] 247) = W2 at *
  generalize w.alloc (Obj.cells #[.int .u64 a, .int .u64 b, .int .u64 c, .int .u64 d] 28) = W1 at *
  rw [s1] at k2 s2
  rw [s2] at k3 s3
  have b0 := u3.at (u2.at k1 (by simp)) (by simp)
  have b1 := u3.at k2 (by simp)
  have hU0 := (u1.trans u2 (fun _ h => .inl h)).trans u3 (fun _ h => .inl h)
  clear u1 u2 u3 k1 k2 s1 s2
  go_loopw [5] (fun i wr => ∃ k : Nat, k ≤ 16 ∧ i = .int .i64 k ∧ wr.heap[w.heap.size]? = some (.cells #[.int .u64 a, .int .u64 b, .int .u64 c, .int .u64 d] 28 (0, 0)) ∧ wr.heap[w.heap.size + 1]? = some (.cells #[.int .u8 0, .int .u8 0, .int .u8 0, .int .u8 0, .int .u8 0, .int .u8 0, .int .u8 0, .int .u8 0, .int .u8 0, .int .u8 0, .int .u8 0, .int .u8 0, .int .u8 0, .int .u8 0, .int .u8 0, .int .u8 0] 247 (0, 0)) ∧
      wr.heap[w.heap.size + 1 + 1]? = some (.cells (lowV a b k ++ List.replicate (16 - k) (Value.int .u8 0)).toArray 247 (0, 0)) ∧ Upd [] w wr)
    (fun i _ => 16 - (intOf i).toNat)
  case atStart => exact ⟨0, Nat.zero_le _, rfl, b0, b1, by simpa [lowV, List.replicate_succ] using k3, hU0⟩
  case round =>
    obtain ⟨k, hk, rfl, h0, h1, h2, hU⟩ := hrel
    by_cases hlt : k < 16
    · have hk0 : ((k : Int) < 16) := by omega
      have hk00 : (0 : Int) ≤ (k : Int) / 8 ∧ (k : Int) / 8 < 4 := by omega
      have l2 : k < (lowV a b k ++ List.replicate (16 - k) (Value.int .u8 0)).length := by rw [List.length_append, lowV_len, List.length_replicate]; omega
      have c2 : wr.cell? ⟨w.heap.size + 1 + 1, k, none⟩ = some (.int .u8 0) := by
        simp only [World.cell?, h2, Option.isSome_none, Bool.false_eq_true, if_false]
        rw [List.getElem?_toArray, List.getElem?_append_right (by rw [lowV_len]; omega), lowV_len, Nat.sub_self, replicate_step k hlt]
        rfl
      have f2 : wr.frozen? ⟨w.heap.size + 1 + 1, k, none⟩ = false := by simp [World.frozen?, h2]
      have cs : ∀ u : Value, (wr.setCell ⟨w.heap.size + 1 + 1, k, none⟩ u).heap[w.heap.size + 1 + 1]? = some (.cells (lowV a b k ++ [u] ++ List.replicate (16 - (k + 1)) (Value.int .u8 0)).toArray 247 (0, 0)) := fun u => by
        rw [heap_setCell_same wr _ k _ _ u h2]
        congr 2
        rw [List.setIfInBounds_toArray, set_zeros (lowV_len _ _ _) hlt]
      have hl2 := lt_of_block h2
      by_cases h8 : k < 8
      · have hz : (k : Int) / 8 = 0 := by omega
        have c0 : wr.cell? ⟨w.heap.size, 0, none⟩ = some (.int .u64 a) := by simp [World.cell?, h0]
        have cf := cs (.int .u8 (a / 2 ^ (8 * (k % 8)) % 256))
        have HC := Lib.hid cf
        clear cs cf
        go_wp2
        go_roundw
        case rel =>
          refine ⟨k + 1, by omega, by go_num, ?_, ?_, ?_, ?_⟩
          · rw [heap_setCell_other wr _ _ _ (by show ¬ w.heap.size = w.heap.size + 1 + 1; omega)]; exact h0
          · rw [heap_setCell_other wr _ _ _ (by show ¬ w.heap.size + 1 = w.heap.size + 1 + 1; omega)]; exact h1
          · rw [lowV_succ, low16_lo (by omega)]; exact HC.out
          · exact hU.setCell _ (.inr (by show w.heap.size ≤ w.heap.size + 1 + 1; omega))
        case measure => simp [intOf]; omega
      · have hz : (k : Int) / 8 = 1 := by omega
        have c0 : wr.cell? ⟨w.heap.size, 1, none⟩ = some (.int .u64 b) := by simp [World.cell?, h0]
        have cf := cs (.int .u8 (b / 2 ^ (8 * (k % 8)) % 256))
        have HC := Lib.hid cf
        clear cs cf
        go_wp2
        go_roundw
        case rel =>
          refine ⟨k + 1, by omega, by go_num, ?_, ?_, ?_, ?_⟩
          · rw [heap_setCell_other wr _ _ _ (by show ¬ w.heap.size = w.heap.size + 1 + 1; omega)]; exact h0
          · rw [heap_setCell_other wr _ _ _ (by show ¬ w.heap.size + 1 = w.heap.size + 1 + 1; omega)]; exact h1
          · rw [lowV_succ, low16_hi (by omega)]; exact HC.out
          · exact hU.setCell _ (.inr (by show w.heap.size ≤ w.heap.size + 1 + 1; omega))
        case measure => simp [intOf]; omega
    · have hk0 : (16 : Int) ≤ k := by omega
      obtain rfl : k = 16 := by omega
      simp only [Nat.sub_self, List.replicate_zero, List.append_nil] at h2
      have hr2 := rangeAt_blk h2
      go_wp2_with (first
        | ((with_reducible show wpList _ _ _ _ _ _); refine wpList_load_mid rfl 247 (.tmp 3) rfl (w.heap.size + 1 + 1) 0 rfl (lowV a b 16) _ hr2 Tryz.underlying247 rfl (by rw [lowV_len]; exact size_ColFixedStr16) ?_)
        | ((with_reducible show wpList _ _ _ _ _ _); refine wpList_store_blk rfl 247 (.tmp 2) (.tmp 20) rfl (b := w.heap.size + 1) rfl h1 rfl (by rw [lowV_len]; rfl) (by rw [lowV_len]; exact size_ColFixedStr16) (lowV_bytes _ _ _).one ?_; intro w3 hb3 hu3; simp only [Act.put]))
      refine bodyPost_ret (v := .agg (lowV a b 16).toArray) (results_cell1 Tryz.results123 (b := w.heap.size + 1) rfl (run_loadVar_mid w3 (w.heap.size + 1) 0 247 (lowV a b 16) _ (rangeAt_blk hb3) Tryz.underlying247 rfl (by rw [lowV_len]; exact size_ColFixedStr16))) rfl ⟨rfl, ?_⟩
      exact hU.trans hu3 (fun y hy => by simp at hy; exact .inr (by omega))

set_option maxRecDepth 100000 in
set_option maxHeartbeats 400000 in
theorem in_ip (r : R4) (w : World) : Calls Tryz.prog 122 #[r.agg] w fun e w' => e = .returned (.agg (lowV r.a r.b 16).toArray) ∧ Upd [] w w' := by
  go_enter Tryz.func122, Tryz.ntmps122
  simp only [R4.agg]
  go_wp2_with (at_builtin; apply stopHere)
  show Calls _ _ _ _ _
  obtain ⟨k1, u1, s1⟩ := alloc_facts w (Obj.cells #[.int .u64 r.a, .int .u64 r.b, .int .u64 r.c, .int .u64 r.d] 28)
  obtain ⟨k2, u2, s2⟩ := alloc_facts (w.alloc (Obj.cells #[.int .u64 r.a, .int .u64 r.b, .int .u64 r.c, .int .u64 r.d] 28)) (Obj.cells #[.int .u8 0, .int .u8 0, .int .u8 0, .int .u8 0, .int .u8 0, .int .u8 0, .int .u8 0, .int .u8 0, .int .u8 0, .int .u8 0, .int .u8 0, .int .u8 0, .int .u8 0, .int .u8 0, .int .u8 0, .int .u8 0] 394)
  rw [s1] at k2
  refine (bytes16 r _).mono ?_
  rintro _ w3 ⟨rfl, hu3⟩
  have k3 := hu3.at k2 (by simp)
  have hU := (u1.trans u2 (fun _ h => .inl h)).trans hu3 (fun _ h => .inl h)
  clear u1 u2 hu3 k1 k2 s1 s2
  dsimp only
  go_wp2_with ((with_reducible show wpList _ _ _ _ _ _); refine wpList_store_blk rfl 394 (.tmp 2) (.tmp 4) rfl (b := w.heap.size + 1) rfl k3 rfl (by rw [lowV_len]; rfl) (by rw [lowV_len]; exact size_ColIPv6) (lowV_bytes _ _ _).one ?_; intro w4 hb4 hu4; simp only [Act.put])
  refine bodyPost_ret (v := .agg (lowV r.a r.b 16).toArray) (results_cell1 Tryz.results122 (b := w.heap.size + 1) rfl (run_loadVar_mid w4 (w.heap.size + 1) 0 394 (lowV r.a r.b 16) _ (rangeAt_blk hb4) Tryz.underlying394 rfl (by rw [lowV_len]; exact size_ColIPv6))) rfl ⟨rfl, ?_⟩
  exact hU.trans hu4 (fun y hy => by simp at hy; exact .inr (by omega))
end Go.Proofs.YtpehfhdacgjmpaaGreat
