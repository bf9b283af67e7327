/- For FnBKBack: bytes that came in, a beginning of bytes, what a version knows of a head. -/
import Derived.Test.YteimeeepcfcfcaaGreatDoorLR
import Derived.Laws.StructEq
namespace Go.Proofs.YteimeeepcfcfcaaGreatDoor
set_option maxRecDepth 100000
set_option maxHeartbeats 2000000
set_option linter.unusedVariables false
set_option linter.unusedSimpArgs false
open Go Go.RowKit Go.ChangeShapes
theorem byteCell_one (x : Int) : ([Value.int .u8 x] : List Value).length = 1 := rfl
theorem flat_bytes (f : Nat → Int) (n : Nat) : ((List.range n).map f).flatMap (fun x => [Value.int .u8 x]) = (List.range n).map (fun i => Value.int .u8 (f i)) := by
  rw [List.flatMap_map]
  induction n with
  | zero => rfl
  | succ n ih => rw [List.range_succ, List.flatMap_append, List.map_append, ih]; rfl
/-- bytes that came in -/
theorem open_bytes {H : Type} {enc : TypeId × Value → H} {w : World} {base : Nat} {spare : Nat → Bool} {held : Bool} {fuel : Nat} {cs : List Value} {x : DataW H × List MemPlace}
    (h : DataW.trod enc Tryz.prog w base spare held fuel 24 cs = some x) : ∃ ao len cap, cs = [.slice ao len cap] ∧ ∃ ys : List Value, ys.length = len ∧ View w 1 ao len ys ∧ AllBytes ys := by
  rcases Deep.open_slice Tryz.underlying24 h with ⟨rfl, _⟩ | ⟨a, l, c, m, n, D, Pl, rfl, _, hl, hm, hmm, _, hx⟩
  · exact ⟨none, 0, 0, rfl, [], rfl, View.nil, AllBytes.nil⟩
  · have hlm : l ≤ m := by rw [hmm]; split <;> omega
    have c1 : Tryz.prog.cellsOf 5 = 1 := by kernel_rfl
    rw [c1] at hx
    obtain ⟨f, hf⟩ := Deep.choose_lt (α := Int) (p := fun i r => (∀ j, j < 1 → w.cell? (a.add (i * 1 + j)) = ([Value.int .u8 r] : List Value)[j]?) ∧ 0 ≤ r ∧ r < 256) (n := l) (fun i hi => by
      obtain ⟨cs', h1, h2⟩ := hx i (by omega)
      obtain ⟨_, h3, h4⟩ := World.cells?_some h1
      obtain ⟨q, h9, _, hwf⟩ := DataW.trod_int Tryz.underlying5 h2
      refine ⟨q, fun j hj => ?_, ?_⟩
      · have h8 := h4 j hj
        rw [Deep.add_add] at h8
        rw [h8, h9]
      · have m0 : IntKind.u8.min = 0 := by rfl
        have m1 : IntKind.u8.max = 255 := by rfl
        simp [Lit.wf, m0, m1] at hwf
        omega)
    have hv := view_of (fun x : Int => [Value.int .u8 x]) 1 (by decide) byteCell_one f (fun i hi => (hf i hi).1)
    rw [flat_bytes] at hv
    refine ⟨some a, l, c, rfl, _, by simp, hv, fun u hu => ?_⟩
    obtain ⟨i, hi, rfl⟩ := List.mem_map.1 hu
    have := (hf i (by simpa using hi)).2
    exact ⟨_, rfl, this.1, this.2⟩
theorem pkCut (g n c : Nat) (z : Int) (hz : 0 ≤ z ∧ z < 65536) (h0 : 0 < n) (hn : n ≤ 100000) (hc : n ≤ c) (w : World) :
    ∃ m, m < n ∧ Calls Tryz.prog 11 #[.slice (some ⟨g, 0, none⟩) n c, .int .u16 z] w fun e w' => e = .returned (.slice (some ⟨g, 0, none⟩) m c) ∧ w' = w := by
  obtain ⟨m, hm⟩ := Int.eq_ofNat_of_zero_le (Int.emod_nonneg z (show ((n : Int)) ≠ 0 by omega))
  have hmn : m < n := by
    have := Int.emod_lt_of_pos z (show (0 : Int) < n by omega)
    omega
  refine ⟨m, hmn, ?_⟩
  have h1 : IntKind.i64.wrap z = z := IntWalk.i64_in _ (by omega)
  have h2 : z.tmod n = m := by rw [Int.tmod_eq_emod_of_nonneg hz.1]; exact hm
  have h3 : ¬ (n : Int) = 0 := by omega
  have h4 : ((n : Int) == 0) = false := beq_eq_false_iff_ne.2 h3
  have h5 : IntKind.i64.wrap (m : Int) = m := IntWalk.i64_in _ (by omega)
  have h6 : ¬ n = 0 := by omega
  have h7 : ¬ c = 0 := by omega
  have h8 : m ≤ c := by omega
  go_enter Tryz.func11, Tryz.ntmps11
  go_wp2
  go_ret
  exact ⟨by first | rfl | simp, rfl⟩
theorem bkKnown_K (ov : Bool) (b v c r : Int) (w : World) : Calls Tryz.prog 12 #[headV ov b c r, .int .i64 v] w fun e w' => e = .returned (headV (knB v ov) (knI v b) c r) ∧ Upd [] w w' := by
  obtain ⟨k1, u1, s1⟩ := alloc_facts w (Obj.cells #[.bool ov, .int .i64 b, .int .i64 c, .int .i64 r] 28)
  obtain ⟨k2, u2, s2⟩ := alloc_facts (w.alloc (Obj.cells #[.bool ov, .int .i64 b, .int .i64 c, .int .i64 r] 28)) (Obj.cells #[.bool false, .int .i64 0, .int .i64 0, .int .i64 0] 28)
  have k1' := u2.at k1 (by simp)
  have u12 := u1.trans u2 (fun _ h => .inl h)
  rw [s1] at k2
  by_cases hv : 51903 ≤ v
  · have hv' : ¬ v < 51903 := by omega
    have hr1 := rangeAt_blk (cs := [.bool ov, .int .i64 b, .int .i64 c, .int .i64 r]) k1'
    rw [show headV (knB v ov) (knI v b) c r = headV ov b c r from by simp [knB, knI, hv]]
    simp only [headV]
    go_enter Tryz.func12, Tryz.ntmps12
    go_wp2_with (first
      | ((with_reducible show wpList _ _ _ _ _ _); refine wpList_load_mid rfl 28 (.tmp 2) rfl w.heap.size 0 rfl [.bool ov, .int .i64 b, .int .i64 c, .int .i64 r] _ hr1 Tryz.underlying28 rfl (by kernel_rfl) ?_)
      | ((with_reducible show wpList _ _ _ _ _ _); refine wpList_store_blk rfl 28 (.tmp 4) (.tmp 9) rfl (b := w.heap.size + 1) rfl k2 (cs := [.bool ov, .int .i64 b, .int .i64 c, .int .i64 r]) rfl rfl (by kernel_rfl) (by simp [Value.oneCell']) ?_; intro w4 hb4 hu4; simp only [Act.put]))
    refine bodyPost_ret (v := .agg #[.bool ov, .int .i64 b, .int .i64 c, .int .i64 r]) (results_cell1 Tryz.results12 (b := w.heap.size + 1) rfl (run_loadVar_mid w4 (w.heap.size + 1) 0 28 [.bool ov, .int .i64 b, .int .i64 c, .int .i64 r] _ (rangeAt_blk hb4) Tryz.underlying28 rfl (by kernel_rfl))) rfl ⟨rfl, ?_⟩
    exact u12.trans hu4 (fun y hy => by simp at hy; exact .inr (by omega))
  · have hv' : v < 51903 := by omega
    rw [show headV (knB v ov) (knI v b) c r = headV false 0 c r from by simp [knB, knI, hv]]
    simp only [headV]
    go_enter Tryz.func12, Tryz.ntmps12
    go_wp2
    obtain ⟨j1, v1, t1⟩ := alloc_facts w (Obj.cells #[.bool false, .int .i64 0, .int .i64 c, .int .i64 r] 28)
    obtain ⟨j2, v2, t2⟩ := alloc_facts (w.alloc (Obj.cells #[.bool false, .int .i64 0, .int .i64 c, .int .i64 r] 28)) (Obj.cells #[.bool false, .int .i64 0, .int .i64 c, .int .i64 r] 28)
    rw [t1] at j2
    refine bodyPost_ret (v := .agg #[.bool false, .int .i64 0, .int .i64 c, .int .i64 r]) (results_cell1 Tryz.results12 (b := w.heap.size + 1) rfl (run_loadVar_mid _ (w.heap.size + 1) 0 28 [.bool false, .int .i64 0, .int .i64 c, .int .i64 r] _ (rangeAt_blk j2) Tryz.underlying28 rfl (by kernel_rfl))) rfl ⟨rfl, v1.trans v2 (fun _ h => .inl h)⟩
end Go.Proofs.YteimeeepcfcfcaaGreatDoor
