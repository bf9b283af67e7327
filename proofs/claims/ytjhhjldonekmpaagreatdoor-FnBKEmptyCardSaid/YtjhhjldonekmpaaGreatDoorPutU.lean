/- spec.PRLow; encoding/binary's PutUint of a width. -/
import Derived.Test.YtjhhjldonekmpaaGreatDoorBytes
import Derived.Test.YtjhhjldonekmpaaGreatDoorProg
namespace Go.Proofs.YtjhhjldonekmpaaGreatDoor
open Go Go.RowKit
theorem Tryz.info5 : (Tryz.prog.info? 5).map (fun i => (i.zero, i.size, i.bytes)) = some (some (.int .u8 0), 1, 1) := by kernel_rfl
set_option maxRecDepth 100000 in
set_option maxHeartbeats 400000 in
theorem PRLow (u v : Int) (n : Nat) (hn : n ≤ 16) (w : World) :
    Calls Tryz.prog 37 #[.int .u64 u, .int .u64 v, .int .i64 n] w fun e w' => ∃ ao c, e = .returned (.slice ao n c) ∧ Row w' 5 1 ao n c (lowV u v n) ∧ Upd [] w w' ∧ In [] w.heap.size ao := by
  go_enter Tryz.func37, Tryz.ntmps37
  go_wp2
  go_loopw [7, 11] (fun s i wr => ∃ (k : Nat) (ao : Option Addr) (c : Nat), k ≤ n ∧ i = .int .i64 k ∧ s = .slice ao k c ∧ Row wr 5 1 ao k c (lowV u v k) ∧ Upd [] w wr ∧ In [] w.heap.size ao)
    (fun _ i _ => n - (intOf i).toNat)
  case atStart => exact ⟨0, none, 0, Nat.zero_le _, rfl, rfl, Row.nil, Upd.refl _ _, In.nil⟩
  case round =>
    obtain ⟨k, ao, c, hk, rfl, rfl, hown, hupd, hin⟩ := hrel
    by_cases hlt : k < n
    · have h0 : ((k : Int) < n) := by omega
      go_wp2_with (at_builtin; refine wpList_app1 _ rfl _ _ 27 rfl 5 (.int .u8 0) 1 1 Tryz.underlying27 Tryz.info5 rfl (by decide) hown rfl [_] rfl rfl rfl (by simp [Value.oneCell']) (by decide) (by omega) ?_; intro ao1 c1 w1 hown1 hupd1 hin1)
      · go_roundw
        case rel => exact ⟨k + 1, _, _, by omega, by go_num, rfl, by rw [lowV_succ, low16_hi ‹_›]; exact hown1, hupd.own hupd1 hin, hin.step hin1 hupd.size⟩
        case measure => simp [intOf]; omega
      · go_roundw
        case rel => exact ⟨k + 1, _, _, by omega, by go_num, rfl, by rw [lowV_succ, low16_lo ‹_›]; exact hown1, hupd.own hupd1 hin, hin.step hin1 hupd.size⟩
        case measure => simp [intOf]; omega
    · have h0 : n ≤ k := by omega
      obtain rfl : k = n := by omega
      go_wp2
      go_ret
      exact ⟨_, _, rfl, hown, hupd, hin⟩

set_option maxRecDepth 100000 in
set_option maxHeartbeats 1000000 in
theorem PutUint64 (g off n cp N C : Nat) (xs : List Value) (v : Int) (w : World) (h : Row w 5 1 (some ⟨g, 0, none⟩) N C xs) (ho : off + 8 ≤ N) (hn : 8 ≤ n) :
    Calls Tryz.prog 251 #[.agg #[], .slice (some ⟨g, off, none⟩) n cp, .int .u64 v] w fun e w' => e = .returned (.tuple #[]) ∧ Row w' 5 1 (some ⟨g, 0, none⟩) N C (putAt xs off (leV 8 v)) ∧ Upd [g] w w' := by
  have hl := h.len
  have hnn : ((8 : Nat) : Int) ≤ n := by omega
  have c0 : ∀ j, j < 8 → ∃ u, w.cell? ⟨g, off + j, none⟩ = some u := fun j hj => by obtain ⟨u, _, hu⟩ := h.cell' (off + j) (by omega); exact ⟨u, hu⟩
  obtain ⟨u0, k0⟩ := c0 0 (by omega)
  rw [Nat.add_zero] at k0
  obtain ⟨u1, k1⟩ := c0 1 (by omega)
  have f1 := h.free (off + 1)
  obtain ⟨u2, k2⟩ := c0 2 (by omega)
  have f2 := h.free (off + 2)
  obtain ⟨u3, k3⟩ := c0 3 (by omega)
  have f3 := h.free (off + 3)
  obtain ⟨u4, k4⟩ := c0 4 (by omega)
  have f4 := h.free (off + 4)
  obtain ⟨u5, k5⟩ := c0 5 (by omega)
  have f5 := h.free (off + 5)
  obtain ⟨u6, k6⟩ := c0 6 (by omega)
  have f6 := h.free (off + 6)
  obtain ⟨u7, k7⟩ := c0 7 (by omega)
  have f7 := h.free (off + 7)
  have f0 := h.free off
  have hgs : g < w.heap.size := h.lt g (by simp)
  clear c0
  go_enter Tryz.func251, Tryz.ntmps251
  go_wp2
  go_end0
  have hs := sets_putAt [.int .u8 (v % 256), .int .u8 (v / 256 % 256), .int .u8 (v / 65536 % 256), .int .u8 (v / 16777216 % 256), .int .u8 (v / 4294967296 % 256), .int .u8 (v / 1099511627776 % 256), .int .u8 (v / 281474976710656 % 256), .int .u8 (v / 72057594037927936 % 256)] xs off 0 (by simp; omega)
  simp only [List.zipIdx_cons, List.zipIdx_nil, List.foldl_cons, List.foldl_nil, Nat.add_zero, Nat.zero_add, Nat.reduceAdd] at hs
  have hb : leV 8 v = [.int .u8 (v % 256), .int .u8 (v / 256 % 256), .int .u8 (v / 65536 % 256), .int .u8 (v / 16777216 % 256), .int .u8 (v / 4294967296 % 256), .int .u8 (v / 1099511627776 % 256), .int .u8 (v / 281474976710656 % 256), .int .u8 (v / 72057594037927936 % 256)] := by simp [leV, byteAt, List.range_succ]
  refine ⟨rfl, ?_, ?_⟩
  · rw [hb, ← hs]
    exact ((((((((h.stored1 off _).stored1 (off + 1) _).stored1 (off + 2) _).stored1 (off + 3) _).stored1 (off + 4) _).stored1 (off + 5) _).stored1 (off + 6) _).stored1 (off + 7) _).alloc _
  · repeat (with_reducible first | exact Upd.refl _ _ | refine Upd.alloc ?_ _ | refine Upd.setCell ?_ _ (by simp) | refine Upd.drew ?_)
set_option maxRecDepth 100000 in
set_option maxHeartbeats 1000000 in
theorem PutUint16 (g off n cp N C : Nat) (xs : List Value) (v : Int) (w : World) (h : Row w 5 1 (some ⟨g, 0, none⟩) N C xs) (ho : off + 2 ≤ N) (hn : 2 ≤ n) :
    Calls Tryz.prog 227 #[.agg #[], .slice (some ⟨g, off, none⟩) n cp, .int .u16 v] w fun e w' => e = .returned (.tuple #[]) ∧ Row w' 5 1 (some ⟨g, 0, none⟩) N C (putAt xs off (leV 2 v)) ∧ Upd [g] w w' := by
  have hl := h.len
  have hnn : ((2 : Nat) : Int) ≤ n := by omega
  have c0 : ∀ j, j < 2 → ∃ u, w.cell? ⟨g, off + j, none⟩ = some u := fun j hj => by obtain ⟨u, _, hu⟩ := h.cell' (off + j) (by omega); exact ⟨u, hu⟩
  obtain ⟨u0, k0⟩ := c0 0 (by omega)
  rw [Nat.add_zero] at k0
  obtain ⟨u1, k1⟩ := c0 1 (by omega)
  have f1 := h.free (off + 1)
  have f0 := h.free off
  have hgs : g < w.heap.size := h.lt g (by simp)
  clear c0
  go_enter Tryz.func227, Tryz.ntmps227
  go_wp2
  go_end0
  have hs := sets_putAt [.int .u8 (v % 256), .int .u8 (v / 256 % 256)] xs off 0 (by simp; omega)
  simp only [List.zipIdx_cons, List.zipIdx_nil, List.foldl_cons, List.foldl_nil, Nat.add_zero, Nat.zero_add, Nat.reduceAdd] at hs
  have hb : leV 2 v = [.int .u8 (v % 256), .int .u8 (v / 256 % 256)] := by simp [leV, byteAt, List.range_succ]
  refine ⟨rfl, ?_, ?_⟩
  · rw [hb, ← hs]
    exact ((h.stored1 off _).stored1 (off + 1) _).alloc _
  · repeat (with_reducible first | exact Upd.refl _ _ | refine Upd.alloc ?_ _ | refine Upd.setCell ?_ _ (by simp) | refine Upd.drew ?_)
end Go.Proofs.YtjhhjldonekmpaaGreatDoor
