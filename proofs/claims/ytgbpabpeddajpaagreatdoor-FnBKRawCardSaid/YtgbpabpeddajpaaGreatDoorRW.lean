/- Raw blocks: impl.BKRaw, impl.BKDecodeRaw, impl.BKInfoPut. -/
import Derived.Test.YtgbpabpeddajpaaGreatDoorME
namespace Go.Proofs.YtgbpabpeddajpaaGreatDoor
set_option linter.unusedVariables false
set_option linter.unusedSimpArgs false
open Go Go.RowKit
set_option maxRecDepth 100000 in
set_option maxHeartbeats 1000000 in
theorem BKRaw_K (ov : Bool) (b v : Int) (R : Nat) (hR : R ≤ 20) (ac : Option Addr) (cc : Nat) (bs : List Bc) (hn : bs.length ≤ 10) (hok : ∀ x ∈ bs, OkB x) (hrn : ∀ x ∈ bs, x.rs.length = R) (w : World) (hw : Bcs w ac bs) :
    Calls Tryz.prog 9 #[headV ov b bs.length R, .int .i64 v, .slice ac bs.length cc] w (Encoded w (rawV v R bs)) := by
  obtain ⟨k1, u1, s1⟩ := alloc_facts w (Obj.cells #[.bool ov, .int .i64 b, .int .i64 bs.length, .int .i64 R] 27)
  have hw1 := hw.upd u1
  have hblen := rawV_len (v := v) (R := R) hok
  go_enter Tryz.func9, Tryz.ntmps9
  simp only [headV]
  go_wp2_with (go_at_call 18; apply stopHere)
  show Calls _ _ _ _ _
  refine (inputs_K ac _ bs hok hn _ hw1).mono ?_
  rintro e w1 ⟨ai, ci, qs, hqs, rfl, hRi, hFi, hUi, hIi⟩
  dsimp only
  obtain ⟨k2, u2, s2⟩ := alloc_facts w1 (Obj.cells #[.slice none 0 0] 50)
  have hB := newBufB w1
  have r0 : w1.rangeAt w.heap.size 0 [.bool ov, .int .i64 b, .int .i64 bs.length, .int .i64 R] := rangeAt_blk (hUi.at k1 (by simp))
  have r1 := u2.range r0 (Nat.lt_of_lt_of_le (by rw [s1]; omega) hUi.size) (by simp)
  have hql : qs.length = bs.length := by rw [← hqs, List.length_map]
  have hil : ∀ x, x ∈ bk ai → x < w1.heap.size := hRi.lt
  have hia : ∀ x, x ∈ bk ai → x ∉ w1.heap.size :: bk none := fun x hx hx' => by
    have := hil x hx
    simp at hx'
    omega
  have hsp : ∀ q ∈ qs, Sep (w1.alloc (Obj.cells #[.slice none 0 0] 50)) w1.heap.size none q := fun q hq => by
    obtain ⟨aq, cq, h1, h2, h3⟩ := hFi q hq
    have hl := h1.lt
    refine ⟨aq, cq, h1.kept u2 (by simp) (by simp), fun hx => by simp at hx; omega, fun y hy hx => ?_⟩
    have := h1.own.lt y hy
    simp at hx
    omega
  have hvi := hRi.toView.upd u2 (by simp)
  have hokq : ∀ q ∈ qs, OkB q.1 := fun q hq => hok q.1 (by rw [← hqs]; exact List.mem_map_of_mem hq)
  have hrnq : ∀ q ∈ qs, q.1.rs.length = R := fun q hq => hrn q.1 (by rw [← hqs]; exact List.mem_map_of_mem hq)
  have hws : w.heap.size ≤ w1.heap.size := by have := hUi.size; rw [s1] at this; omega
  have hEB := fun (W : World) (hu : Upd [] (w1.alloc (Obj.cells #[.slice none 0 0] 50)) W) => EncodeRawBlock_K w1.heap.size none 0 0 [] ov b v R hR ai ci qs (by omega) W (hB.kept hu (by simp) (by simp)) (by omega) (by rw [hql]; exact hvi.upd hu (by simp)) hia hokq hrnq (fun q hq => (hsp q hq).upd hu)
  have hE2 : 2 + (bodyV v bs).length = (rawV v R bs).length := by simp [rawV]; omega
  have hE1 : ([.int .u8 bs.length, .int .u8 R] : List Value) ++ bodyV v bs = rawV v R bs := rfl
  rw [hql, hqs, hE2, hE1] at hEB
  clear hE1 hE2
  obtain ⟨ys, hys⟩ : ∃ ys, ys = rawV v R bs := ⟨_, rfl⟩
  rw [← hys] at hEB hblen
  have HY := Lib.hid hys
  clear hys
  go_wp2_with (first
    | ((with_reducible show wpList _ _ _ _ _ _); refine wpList_load_midG (by rfl) 27 (.tmp 3) rfl w.heap.size 0 rfl [.bool ov, .int .i64 b, .int .i64 bs.length, .int .i64 R] _ r1 Tryz.underlying27 rfl (by kernel_rfl) ?_)
    | (go_at_call 19; (refine (block_of ov b _ _ _).mono ?_); rintro e w2 ⟨rfl, hu2⟩; have hE2 := hEB _ hu2)
    | (go_at_call 21; (refine hE2.mono ?_); rintro e w3 ⟨rfl, ao3, c3, hH3, hU3, hI3⟩; have q3 := hH3.cell; rw [List.nil_append, Nat.zero_add] at hH3 ; rw [Nat.zero_add] at q3))
  have hH4 := hH3.own
  obtain ⟨g, rfl⟩ := hH4.head (by omega)
  obtain rfl := HY.out
  refine bodyPost_ret (results_tmp2 Tryz.results9 _ _ _) rfl ⟨g, c3, by first | rfl | simp, hH4, ?_, ?_⟩
  · exact (((u1.trans hUi (fun _ h => .inl h)).trans u2 (fun _ h => .inl h)).trans hu2 (fun _ h => .inl h)).trans hU3 (fun y hy => by simp at hy; exact .inr (by omega))
  · rcases hI3 g (by simp) with h | h
    · simp at h
    · have := hu2.size; rw [s2] at this; omega
set_option maxRecDepth 100000 in
set_option maxHeartbeats 1000000 in
theorem bkClosure_W (vb kb rd bf d : Nat) (ao : Option Addr) (v : Int) (R : Nat) (ar : Option Addr) (cr : Nat) (qs : List (Bc × Nat)) (hC : ColsOK R qs) (rest : List Value) (w : World) (h : Rdr w rd bf d ao (rawV v R (qs.map Prod.fst) ++ rest)) (hk : w.heap[kb]? = some (blkC false 0 0 0)) (ho : Off kb rd bf d ao) (hp : DecPre w kb rd bf d ao ar qs)
    (hv : w.cell? ⟨vb, 0, none⟩ = some (.int .i64 v)) :
    Calls Tryz.prog 25 #[.pointer (some ⟨kb, 0, none⟩), .pointer (some ⟨rd, 0, none⟩), .iface 109 (.slice ar qs.length cr), .pointer (some ⟨vb, 0, none⟩)] w fun e w' => e = .returned .nilIface ∧ w'.heap[kb]? = some (blkC false 0 qs.length R) ∧ DecGot w w' kb rd bf d ao qs rest := by
  go_enter Tryz.func25, Tryz.ntmps25
  go_wp2_with (go_at_call 26; (refine (DecodeRawBlock_K kb rd bf d ao false 0 v R ar cr qs hC rest _ h hk ho hp).mono ?_); rintro e w1 ⟨rfl, hB1, hK1⟩)
  go_ret
  exact ⟨rfl, hB1, hK1⟩
set_option maxRecDepth 100000 in
set_option maxHeartbeats 1000000 in
theorem BKDecodeRaw_K (v : Int) (R : Nat) (hR0 : 0 < R) (hR : R ≤ 20) (d o N c : Nat) (rest : List Value) (ac : Option Addr) (cc : Nat) (bs : List Bc) (hn : bs.length ≤ 10) (hn0 : 0 < bs.length) (hok : ∀ x ∈ bs, OkB x) (hrn : ∀ x ∈ bs, x.rs.length = R) (hnm : ∀ x ∈ bs, 0 < x.nm.size) (w : World)
    (hcv : View w 3 ac bs.length (bs.flatMap Bc.cells)) (hr : w.rangeAt d o (rawV v R bs ++ rest)) (hN : N = (rawV v R bs ++ rest).length) (hNc : N ≤ c) (hby : AllBytes rest) (hdl : d < w.heap.size) :
    Calls Tryz.prog 11 #[.slice (some ⟨d, o, none⟩) N c, .int .i64 v, .slice ac bs.length cc] w (Decoded w (headV false 0 bs.length R) bs rest.length) := by
  have hmf : ∀ (fn : Fn) (first cap : Array Value) (w : World), (Instr.makeFunc fn first cap).run Tryz.prog w = .ok (.func fn first cap) w := fun _ _ _ _ => rfl
  obtain ⟨k1, u1, s1⟩ := alloc_facts w (Obj.cells #[.int .i64 v] 3)
  obtain ⟨k2, u2, s2⟩ := alloc_facts (w.alloc (Obj.cells #[.int .i64 v] 3)) (Obj.cells #[.bool false, .int .i64 0, .int .i64 0, .int .i64 0] 27)
  have k1' := cell_of_one (u2.at k1 (by simp))
  have u12 := u1.trans u2 (fun _ h => .inl h)
  rw [s1] at k2 s2
  have hent : ∀ (args : Array Value) (w : World), (callFunc 25 args).run Tryz.prog w = .ok (.enter 25 args) w := fun _ _ => by kernel_rfl
  have hd := decode_K 25 hent (.pointer (some ⟨w.heap.size, 0, none⟩)) false 0 R (rawV v R bs ++ rest) rest d o N c ac cc bs hn hn0 hok hrn hnm hR _ (hcv.upd u12 (by simp)) (u12.range hr hdl (by simp)) hN hNc ((rawV_bytes hok hn hR).append hby) (Nat.lt_of_lt_of_le hdl u12.size)
    (fun kb rd bf ar cr qs W hu hqs hRd hk ho hp => by
      have hql : qs.length = bs.length := by rw [← hqs, List.length_map]
      have hin : ∀ q ∈ qs, q.1 ∈ bs := fun q hq => by rw [← hqs]; exact List.mem_map_of_mem hq
      have hC : ColsOK R qs := ⟨by omega, by omega, fun q hq => hok _ (hin q hq), fun q hq => hrn _ (hin q hq), fun q hq => hnm _ (hin q hq), hR0, hR⟩
      have h := bkClosure_W w.heap.size kb rd bf d none v R ar cr qs hC rest W (by rw [hqs]; exact hRd) hk ho hp (hu.cell1 k1' (by simp))
      rw [hql] at h
      exact h)
  obtain ⟨hv, hhv⟩ : ∃ hv, hv = headV false 0 bs.length R := ⟨_, rfl⟩
  obtain ⟨x0, x1, x2, x3, hx⟩ : ∃ x0 x1 x2 x3 : Value, hv = .agg #[x0, x1, x2, x3] ∧ ∀ u ∈ [x0, x1, x2, x3], u.oneCell' = true := ⟨_, _, _, _, by rw [hhv]; exact ⟨rfl, by simp [Value.oneCell']⟩⟩
  rw [← hhv] at hd ⊢
  obtain ⟨rfl, hx1⟩ := hx
  clear hr hN hcv hhv
  go_enter Tryz.func11, Tryz.ntmps11
  go_wp2_with (first
    | (go_at_call 24; (refine hd.mono ?_); rintro e w3 ⟨ao3, c3, ws3, hq3, rfl, hR3, hV3, hu3, hi3⟩; have k3 := hu3.at k2 (by simp))
    | ((with_reducible show wpList _ _ _ _ _ _); refine wpList_store_blk rfl 27 (.tmp 6) (.tmp 14) rfl (b := w.heap.size + 1) rfl k3 (cs := [x0, x1, x2, x3]) rfl rfl (by kernel_rfl) hx1 ?_; intro w4 hb4 hu4; simp only [Act.put]))
  have hn4 : ∀ y, w.heap.size + 1 + 1 ≤ y → y ∉ [w.heap.size + 1] := fun y hy => by simp; omega
  rw [s2] at hi3
  have hV4 : ∀ x ∈ ws3, View w4 4 x.2.1 x.1.rs.length (keptV x.1) ∧ In [] w.heap.size x.2.1 := fun x hx => ⟨(hV3 x hx).1.upd hu4 (fun y hy => hn4 y (((hV3 x hx).2 y hy).elim (fun h => by simp at h) (fun h => by rw [s2] at h; exact h))), (hV3 x hx).2.le u12.size⟩
  have hR4 := hR3.upd hu4 (fun y hy => hn4 y ((hi3 y hy).elim (fun h => by simp at h) id))
  have z0 : w4.cell? ⟨w.heap.size + 1, 0, none⟩ = some x0 := (cellAt hb4 0).trans rfl
  have z1 : w4.cell? ⟨w.heap.size + 1, 1, none⟩ = some x1 := (cellAt hb4 1).trans rfl
  have z2 : w4.cell? ⟨w.heap.size + 1, 2, none⟩ = some x2 := (cellAt hb4 2).trans rfl
  have z3 : w4.cell? ⟨w.heap.size + 1, 3, none⟩ = some x3 := (cellAt hb4 3).trans rfl
  have huA : Upd [] w w4 := (u12.trans hu3 (fun _ h => .inl h)).trans hu4 (fun y hy => .inr (by simp at hy; omega))
  refine bodyPost_ret (v := .tuple #[.agg #[x0, x1, x2, x3], .slice ao3 bs.length c3, .int .i64 rest.length, .bool true]) ?_ rfl ⟨ao3, c3, ws3, hq3, rfl, hR4, hV4, huA, fun y hy => (hi3 y hy).elim (fun h => by simp at h) (fun h => .inr (by omega))⟩
  clear hV4 hV3
  simp [results, Tryz.results11, go_sem, z0, z1, z2, z3]
end Go.Proofs.YtgbpabpeddajpaaGreatDoor
