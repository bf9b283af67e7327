/- numbersOf.add and .at of six kinds. -/
import Derived.Test.YtfbohkbpgfnceaaGreatDoorKF
namespace Go.Proofs.YtfbohkbpgfnceaaGreatDoor
set_option linter.unusedVariables false
set_option linter.unusedSimpArgs false
open Go Go.RowKit
theorem mapp_i8 (p : Nat) (w : World) : (method 625 100 (.pointer (some ⟨p, 0, none⟩)) "Append").run Tryz.prog w = .ok (454, .pointer (some ⟨p, 0, none⟩)) w := by kernel_rfl
theorem mrow1_i8 (k p : Nat) (w : World) : (method (k + 1) 100 (.pointer (some ⟨p, 0, none⟩)) "Row").run Tryz.prog w = (do let v ← receiverAt 100 (.val (.pointer (some ⟨p, 0, none⟩))) false (some "Row"); pure (456, v) : Sem (FuncId × Value)).run Tryz.prog w := by kernel_rfl
theorem mrow2_i8 (p : Nat) (w : World) : (receiverAt 100 (.val (.pointer (some ⟨p, 0, none⟩))) false (some "Row")).run Tryz.prog w = (loadVar 102 ⟨p, 0, none⟩).run Tryz.prog w := by kernel_rfl
theorem load_i8 (p : Nat) (w : World) (v : Value) (h : w.cell? ⟨p, 0, none⟩ = some v) : (loadVar 102 ⟨p, 0, none⟩).run Tryz.prog w = .ok v w := by go_simp
theorem mrow_i8 (p : Nat) (w : World) (v : Value) (h : w.cell? ⟨p, 0, none⟩ = some v) : (method 625 100 (.pointer (some ⟨p, 0, none⟩)) "Row").run Tryz.prog w = .ok (456, v) w := by
  rw [show 625 = (625 - 1) + 1 from rfl, mrow1_i8]
  simp only [Sem.run_bind, mrow2_i8, load_i8 p w v h, Result.andThen_ok, Sem.run_pure]
set_option maxRecDepth 100000 in
set_option maxHeartbeats 1000000 in
theorem add_i8 (p : Nat) (ar : Option Addr) (n c : Nat) (rs : List R4) (ao : Option Addr) (m cp : Nat) (xs : List Value) (w : World) (hr : View w 4 ar n (rs.flatMap R4.cells)) (hc : Hold w p 102 103 1 ao m cp xs)
    (hap : 0 < n → Apart ar p ao) (hn : n ≤ 1000) (hm : m ≤ 100000) :
    Calls Tryz.prog 206 #[V_i8 p, .slice ar n c] w fun e w' => e = .returned (.tuple #[]) ∧ Grew w w' p 102 103 1 ao (m + n) (xs ++ rs.flatMap cells_i8) := by
  have hrl : rs.length = n := by have := hr.len; rw [flatMap_len _ 4 R4.cells_len] at this; omega
  have hpw := hc.lt
  go_enter Tryz.func206, Tryz.ntmps206
  simp only [V_i8]
  go_wp2
  have hcB : (w.alloc (Obj.cells #[.iface 100 (.pointer (some ⟨p, 0, none⟩)), .func (Fn.func 36) #[] #[], .func (Fn.func 37) #[] #[]] 109)).heap[w.heap.size]? = some (Obj.cells #[.iface 100 (.pointer (some ⟨p, 0, none⟩)), .func (Fn.func 36) #[] #[], .func (Fn.func 37) #[] #[]] 109) := heap_alloc_new _ _
  have hU0 := (Upd.refl [] w).alloc (Obj.cells #[.iface 100 (.pointer (some ⟨p, 0, none⟩)), .func (Fn.func 36) #[] #[], .func (Fn.func 37) #[] #[]] 109)
  have hBn : w.heap.size ∉ p :: bk ao := fun h => by
    rcases List.mem_cons.1 h with h | h
    · omega
    · have := hc.bk_lt _ h; omega
  have hBl := lt_of_block hcB
  generalize w.alloc (Obj.cells #[.iface 100 (.pointer (some ⟨p, 0, none⟩)), .func (Fn.func 36) #[] #[], .func (Fn.func 37) #[] #[]] 109) = W0 at *
  have hc0 := hc.kept hU0 (by simp) (by simp)
  have hr0 := hr.upd hU0 (by simp)
  go_loopw [8] (fun i wr => ∃ (k : Nat) (ao' : Option Addr) (c' : Nat), k ≤ n ∧ i = .int .i64 k ∧ Hold wr p 102 103 1 ao' (m + k) c' (xs ++ (rs.take k).flatMap cells_i8) ∧ Upd (p :: bk ao) W0 wr ∧ In (bk ao) W0.heap.size ao')
    (fun i _ => n - (intOf i).toNat)
  case atStart => exact ⟨0, ao, cp, Nat.zero_le _, rfl, by simpa using hc0, Upd.refl _ _, In.self (fun _ h => h)⟩
  case round =>
    obtain ⟨k, ao', c', hk, rfl, hH, hU, hI⟩ := hrel
    by_cases hlt : k < n
    · have hk0 : ((k : Int) < n) := by omega
      obtain ⟨b, o, rfl, hrr, hbb⟩ := hr0.at_ (by omega)
      have hbn : b ∉ p :: bk ao := (hap (by omega)).not b (by simp)
      obtain ⟨r, hx⟩ : ∃ r, r = rs[k]'(by omega) := ⟨_, rfl⟩
      have hcell : ∀ j, j < 4 → wr.cell? ⟨b, o + k * 4 + j, none⟩ = r.cells[j]? := fun j hj => by
        rw [hU.cell hbb hbn, Nat.add_assoc]
        have h1 := rows_get rs k (by omega) j hj
        rw [← hx] at h1
        obtain ⟨u, hu⟩ : ∃ u, r.cells[j]? = some u := ⟨r.cells[j]'(by rw [R4.cells_len]; omega), by simp⟩
        rw [hu]
        exact hrr (k * 4 + j) u (h1.trans hu)
      have d0 := hcell 0 (by omega)
      have d1 := hcell 1 (by omega)
      have d2 := hcell 2 (by omega)
      have d3 := hcell 3 (by omega)
      have HX := Lib.hid hx
      clear hx hcell
      obtain ⟨ra, rb, rc, rd⟩ := r
      simp only [R4.cells, Nat.add_zero, List.getElem?_cons_zero, List.getElem?_cons_succ] at d0 d1 d2 d3
      have hB := hU.at hcB hBn
      have e0 : wr.cell? ⟨w.heap.size, 0, none⟩ = some (.iface 100 (.pointer (some ⟨p, 0, none⟩))) := by simp [World.cell?, hB]
      have e1 : wr.cell? ⟨w.heap.size, 1, none⟩ = some (.func (Fn.func 36) #[] #[]) := by simp [World.cell?, hB]
      have hBw := lt_of_block hB
      go_wp2
      have n0 := World.cell?_alloc_at (w := wr) #[Value.int .u64 ra, .int .u64 rb, .int .u64 rc, .int .u64 rd] 67 wr.heap.size 0 rfl
      have n1 := World.cell?_alloc_at (w := wr) #[Value.int .u64 ra, .int .u64 rb, .int .u64 rc, .int .u64 rd] 67 wr.heap.size 1 rfl
      have n2 := World.cell?_alloc_at (w := wr) #[Value.int .u64 ra, .int .u64 rb, .int .u64 rc, .int .u64 rd] 67 wr.heap.size 2 rfl
      have n3 := World.cell?_alloc_at (w := wr) #[Value.int .u64 ra, .int .u64 rb, .int .u64 rc, .int .u64 rd] 67 wr.heap.size 3 rfl
      have hUn := (Upd.refl [] wr).alloc (Obj.cells #[Value.int .u64 ra, .int .u64 rb, .int .u64 rc, .int .u64 rd] 67)
      generalize wr.alloc (Obj.cells #[Value.int .u64 ra, .int .u64 rb, .int .u64 rc, .int .u64 rd] 67) = W at *
      have g0 := hUn.cell1 e0 (by simp)
      have g1 := hUn.cell1 e1 (by simp)
      simp only [List.getElem?_toArray, List.getElem?_cons_zero, List.getElem?_cons_succ] at n0 n1 n2 n3
      have hHW := hH.kept hUn (by simp) (by simp)
      have hmeth := mapp_i8 p
      refine wp_region_split (S := Upd [] W) [(true, 0), (true, 1), (true, 2), (true, 3), (true, 4), (true, 6), (true, 7)] [5] [8] (by kernel_rfl) (by kernel_rfl) (fun _ _ d _ _ h => by cases d <;> exact h) ((Upd.refl _ _).drew) ?_
      simp only [readsAt, opersAt, Option.map_some, List.filterMap_cons, List.filterMap_nil, List.getElem?_toArray, List.getElem?_cons_succ, List.getElem?_cons_zero]
      iterate 7 (refine ⟨_, Or.inl ⟨by rfl, fun w' hS => by first | (have q0 := Upd.cell1 hS g0 (by simp); have q1 := Upd.cell1 hS g1 (by simp); have q2 := Upd.cell1 hS n0 (by simp); have q3 := Upd.cell1 hS n1 (by simp); have q4 := Upd.cell1 hS n2 (by simp); have q5 := Upd.cell1 hS n3 (by simp); first | (go_simp; done) | (go_simp; with_reducible rfl)) | (go_simp; done) | (go_simp; with_reducible rfl)⟩, ?_⟩; simp only [Act.put, List.setIfInBounds_toArray, List.set_cons_zero, List.set_cons_succ])
      intro L0 hL0
      rw [if_pos (by rfl)]
      go_simp; refine (vin_i8 ⟨ra, rb, rc, rd⟩ _).mono ?_; rintro e w1 ⟨rfl, hu1⟩
      refine hL0 _ _ ⟨hu1.ofDrew, ?_⟩
      clear hL0 L0
      try simp only [preThen]
      change wpList _ _ _ [_] _ _
      have hH1 := hHW.kept hu1.ofDrew (by simp) (by simp)
      have hUw := (hUn.trans hu1.ofDrew (fun _ h => .inl h))
      go_wp2_with (go_at_call 454; (with_reducible refine (vapp_i8 p _ _ _ _ _ _ hH1 (by omega)).mono ?_); rintro e w2 ⟨rfl, ao2, c2, hH2, hU2, hI2⟩)
      have hUx : Upd (p :: bk ao) W0 w2 := (hU.trans (hUw.mono (by simp) : Upd (p :: bk ao) wr w1) (fun _ h => .inl h)).trans hU2 (fun y hy => by
        rcases List.mem_cons.1 hy with h | h
        · exact .inl (by rw [h]; exact List.mem_cons_self)
        · rcases hI y h with h' | h'
          · exact .inl (List.mem_cons_of_mem _ h')
          · exact .inr h')
      have hIx : In (bk ao) W0.heap.size ao2 := hI.step hI2 (Nat.le_trans hU.size hUw.size)
      have hHx : Hold w2 p 102 103 1 ao2 (m + (k + 1)) c2 (xs ++ (rs.take (k + 1)).flatMap cells_i8) := by
        rw [flatMap_take_succ _ _ _ (by omega), ← HX.out, ← List.append_assoc]
        exact hH2
      clear hH2 hU2 hI2 hH1 hHW
      go_roundw
      case rel => exact ⟨k + 1, ao2, c2, by omega, by go_num, hHx, hUx, hIx⟩
      case measure => simp [intOf]; omega
    · have hk0 : n ≤ k := by omega
      obtain rfl : k = n := by omega
      go_wp2
      go_end0
      refine ⟨rfl, ao', c', ?_, (hU0.mono (by simp)).trans hU (fun _ h => .inl h), hI.le hU0.size⟩
      rw [List.take_of_length_le (by omega)] at hH
      exact hH
set_option maxRecDepth 100000 in
set_option maxHeartbeats 1000000 in
theorem at_i8 (p g n c : Nat) (rs : List R4) (i : Nat) (hi : i < rs.length) (w : World) (hrs : ∀ r ∈ rs, Ok4 r) (h : Hold w p 102 103 1 (some ⟨g, 0, none⟩) n c (rs.flatMap cells_i8)) (hl : rs.length = n) :
    Calls Tryz.prog 208 #[V_i8 p, .int .i64 i] w fun e w' => e = .returned (kept_i8 rs[i]).agg ∧ Upd [] w w' := by
  obtain ⟨r, hx⟩ : ∃ r, r = rs[i] := ⟨_, rfl⟩
  have hr : Ok4 r := hrs r (by rw [hx]; exact List.getElem_mem _)
  have hpc := flat_piece (m := 1) (h.own.view 0 _ (fun j v hj => by rw [Nat.zero_add]; exact hj)) (fun _ => by first | rfl | exact lowV_len _ _ _) i hi
  rw [← hx] at hpc ⊢
  rw [Nat.mul_comm] at hpc
  have hgl : g < w.heap.size := h.own.lt g (by simp)
  clear hx
  go_enter Tryz.func208, Tryz.ntmps208
  simp only [V_i8]
  go_wp2
  obtain ⟨k1, u1, s1⟩ := alloc_facts w (Obj.cells #[.iface 100 (.pointer (some ⟨p, 0, none⟩)), .func (Fn.func 36) #[] #[], .func (Fn.func 37) #[] #[]] 109)
  obtain ⟨k2, u2, s2⟩ := alloc_facts (w.alloc (Obj.cells #[.iface 100 (.pointer (some ⟨p, 0, none⟩)), .func (Fn.func 36) #[] #[], .func (Fn.func 37) #[] #[]] 109)) (Obj.cells #[.int .u64 0, .int .u64 0, .int .u64 0, .int .u64 0] 67)
  generalize (w.alloc (Obj.cells #[.iface 100 (.pointer (some ⟨p, 0, none⟩)), .func (Fn.func 36) #[] #[], .func (Fn.func 37) #[] #[]] 109)).alloc (Obj.cells #[.int .u64 0, .int .u64 0, .int .u64 0, .int .u64 0] 67) = W at *
  rw [s1] at k2 s2
  have u12 := u1.trans u2 (fun _ h => .inl h)
  have hh := h.kept u12 (by simp) (by simp)
  have kk := u2.at k1 (by simp)
  have q0 : W.cell? ⟨w.heap.size, 0, none⟩ = some (.iface 100 (.pointer (some ⟨p, 0, none⟩))) := by simp [World.cell?, kk]
  have q2 : W.cell? ⟨w.heap.size, 2, none⟩ = some (.func (Fn.func 37) #[] #[]) := by simp [World.cell?, kk]
  clear k1 u1 kk u2
  have hrow := (Upd.refl [] W).drew.range (u12.range hpc hgl (by simp)) (Nat.lt_of_lt_of_le hgl u12.size) (by simp)
  have hmr := mrow_i8 p W.drew _ hh.cell
  refine wp_region_split (S := Upd [] W) [(true, 0), (true, 1), (true, 2), (true, 3), (true, 4)] [5] [6, 7] (by kernel_rfl) (by kernel_rfl) (fun _ _ d _ _ h => by cases d <;> exact h) ((Upd.refl _ _).drew) ?_
  simp only [readsAt, opersAt, Option.map_some, List.filterMap_cons, List.filterMap_nil, List.getElem?_toArray, List.getElem?_cons_succ, List.getElem?_cons_zero]
  iterate 5 (refine ⟨_, Or.inl ⟨by rfl, fun w' hS => by first | (have e0 := Upd.cell1 hS q0 (by simp); have e1 := Upd.cell1 hS q2 (by simp); first | (go_simp; done) | (go_simp; with_reducible rfl)) | (go_simp; done) | (go_simp; with_reducible rfl)⟩, ?_⟩; simp only [Act.put, List.setIfInBounds_toArray, List.set_cons_zero, List.set_cons_succ])
  intro L0 hL0
  rw [if_pos (by rfl)]
  go_simp; refine (vrow_i8 g n c i r _ hrow (Nat.lt_of_lt_of_le hgl u12.size) (by omega)).mono ?_; rintro e w1 ⟨rfl, hu1⟩
  refine hL0 _ _ ⟨hu1.ofDrew, ?_⟩
  clear hL0 L0
  try simp only [preThen]
  change wpList _ _ _ [_, _] _ _
  have m1 := hu1.ofDrew.at k2 (by simp)
  go_wp2_with (first
    | (go_at_call 37; (refine (vout_i8 r hr _).mono ?_); rintro e w2 ⟨rfl, hu2⟩; have m2 := hu2.at m1 (by simp))
    | ((with_reducible show wpList _ _ _ _ _ _); refine wpList_store_blk rfl 67 (.tmp 4) (.tmp 11) rfl (b := w.heap.size + 1) rfl m2 (cs := (kept_i8 r).cells) rfl rfl (by kernel_rfl) (by simp [R4.cells, Value.oneCell']) ?_; intro w4 hb4 hu4; simp only [Act.put]))
  refine bodyPost_ret (results_cell1 Tryz.results208 (b := w.heap.size + 1) rfl (run_loadVar_mid w4 (w.heap.size + 1) 0 67 (kept_i8 r).cells _ (rangeAt_blk hb4) Tryz.underlying67 rfl (by kernel_rfl))) rfl ⟨rfl, ?_⟩
  exact ((u12.trans hu1.ofDrew (fun _ h => .inl h)).trans hu2 (fun _ h => .inl h)).trans hu4 (fun y hy => by simp at hy; exact .inr (by omega))
theorem mapp_i16 (p : Nat) (w : World) : (method 625 110 (.pointer (some ⟨p, 0, none⟩)) "Append").run Tryz.prog w = .ok (209, .pointer (some ⟨p, 0, none⟩)) w := by kernel_rfl
theorem mrow1_i16 (k p : Nat) (w : World) : (method (k + 1) 110 (.pointer (some ⟨p, 0, none⟩)) "Row").run Tryz.prog w = (do let v ← receiverAt 110 (.val (.pointer (some ⟨p, 0, none⟩))) false (some "Row"); pure (213, v) : Sem (FuncId × Value)).run Tryz.prog w := by kernel_rfl
theorem mrow2_i16 (p : Nat) (w : World) : (receiverAt 110 (.val (.pointer (some ⟨p, 0, none⟩))) false (some "Row")).run Tryz.prog w = (loadVar 112 ⟨p, 0, none⟩).run Tryz.prog w := by kernel_rfl
theorem load_i16 (p : Nat) (w : World) (v : Value) (h : w.cell? ⟨p, 0, none⟩ = some v) : (loadVar 112 ⟨p, 0, none⟩).run Tryz.prog w = .ok v w := by go_simp
theorem mrow_i16 (p : Nat) (w : World) (v : Value) (h : w.cell? ⟨p, 0, none⟩ = some v) : (method 625 110 (.pointer (some ⟨p, 0, none⟩)) "Row").run Tryz.prog w = .ok (213, v) w := by
  rw [show 625 = (625 - 1) + 1 from rfl, mrow1_i16]
  simp only [Sem.run_bind, mrow2_i16, load_i16 p w v h, Result.andThen_ok, Sem.run_pure]
set_option maxRecDepth 100000 in
set_option maxHeartbeats 1000000 in
theorem add_i16 (p : Nat) (ar : Option Addr) (n c : Nat) (rs : List R4) (ao : Option Addr) (m cp : Nat) (xs : List Value) (w : World) (hr : View w 4 ar n (rs.flatMap R4.cells)) (hc : Hold w p 112 113 1 ao m cp xs)
    (hap : 0 < n → Apart ar p ao) (hn : n ≤ 1000) (hm : m ≤ 100000) :
    Calls Tryz.prog 219 #[V_i16 p, .slice ar n c] w fun e w' => e = .returned (.tuple #[]) ∧ Grew w w' p 112 113 1 ao (m + n) (xs ++ rs.flatMap cells_i16) := by
  have hrl : rs.length = n := by have := hr.len; rw [flatMap_len _ 4 R4.cells_len] at this; omega
  have hpw := hc.lt
  go_enter Tryz.func219, Tryz.ntmps219
  simp only [V_i16]
  go_wp2
  have hcB : (w.alloc (Obj.cells #[.iface 110 (.pointer (some ⟨p, 0, none⟩)), .func (Fn.func 38) #[] #[], .func (Fn.func 39) #[] #[]] 119)).heap[w.heap.size]? = some (Obj.cells #[.iface 110 (.pointer (some ⟨p, 0, none⟩)), .func (Fn.func 38) #[] #[], .func (Fn.func 39) #[] #[]] 119) := heap_alloc_new _ _
  have hU0 := (Upd.refl [] w).alloc (Obj.cells #[.iface 110 (.pointer (some ⟨p, 0, none⟩)), .func (Fn.func 38) #[] #[], .func (Fn.func 39) #[] #[]] 119)
  have hBn : w.heap.size ∉ p :: bk ao := fun h => by
    rcases List.mem_cons.1 h with h | h
    · omega
    · have := hc.bk_lt _ h; omega
  have hBl := lt_of_block hcB
  generalize w.alloc (Obj.cells #[.iface 110 (.pointer (some ⟨p, 0, none⟩)), .func (Fn.func 38) #[] #[], .func (Fn.func 39) #[] #[]] 119) = W0 at *
  have hc0 := hc.kept hU0 (by simp) (by simp)
  have hr0 := hr.upd hU0 (by simp)
  go_loopw [8] (fun i wr => ∃ (k : Nat) (ao' : Option Addr) (c' : Nat), k ≤ n ∧ i = .int .i64 k ∧ Hold wr p 112 113 1 ao' (m + k) c' (xs ++ (rs.take k).flatMap cells_i16) ∧ Upd (p :: bk ao) W0 wr ∧ In (bk ao) W0.heap.size ao')
    (fun i _ => n - (intOf i).toNat)
  case atStart => exact ⟨0, ao, cp, Nat.zero_le _, rfl, by simpa using hc0, Upd.refl _ _, In.self (fun _ h => h)⟩
  case round =>
    obtain ⟨k, ao', c', hk, rfl, hH, hU, hI⟩ := hrel
    by_cases hlt : k < n
    · have hk0 : ((k : Int) < n) := by omega
      obtain ⟨b, o, rfl, hrr, hbb⟩ := hr0.at_ (by omega)
      have hbn : b ∉ p :: bk ao := (hap (by omega)).not b (by simp)
      obtain ⟨r, hx⟩ : ∃ r, r = rs[k]'(by omega) := ⟨_, rfl⟩
      have hcell : ∀ j, j < 4 → wr.cell? ⟨b, o + k * 4 + j, none⟩ = r.cells[j]? := fun j hj => by
        rw [hU.cell hbb hbn, Nat.add_assoc]
        have h1 := rows_get rs k (by omega) j hj
        rw [← hx] at h1
        obtain ⟨u, hu⟩ : ∃ u, r.cells[j]? = some u := ⟨r.cells[j]'(by rw [R4.cells_len]; omega), by simp⟩
        rw [hu]
        exact hrr (k * 4 + j) u (h1.trans hu)
      have d0 := hcell 0 (by omega)
      have d1 := hcell 1 (by omega)
      have d2 := hcell 2 (by omega)
      have d3 := hcell 3 (by omega)
      have HX := Lib.hid hx
      clear hx hcell
      obtain ⟨ra, rb, rc, rd⟩ := r
      simp only [R4.cells, Nat.add_zero, List.getElem?_cons_zero, List.getElem?_cons_succ] at d0 d1 d2 d3
      have hB := hU.at hcB hBn
      have e0 : wr.cell? ⟨w.heap.size, 0, none⟩ = some (.iface 110 (.pointer (some ⟨p, 0, none⟩))) := by simp [World.cell?, hB]
      have e1 : wr.cell? ⟨w.heap.size, 1, none⟩ = some (.func (Fn.func 38) #[] #[]) := by simp [World.cell?, hB]
      have hBw := lt_of_block hB
      go_wp2
      have n0 := World.cell?_alloc_at (w := wr) #[Value.int .u64 ra, .int .u64 rb, .int .u64 rc, .int .u64 rd] 67 wr.heap.size 0 rfl
      have n1 := World.cell?_alloc_at (w := wr) #[Value.int .u64 ra, .int .u64 rb, .int .u64 rc, .int .u64 rd] 67 wr.heap.size 1 rfl
      have n2 := World.cell?_alloc_at (w := wr) #[Value.int .u64 ra, .int .u64 rb, .int .u64 rc, .int .u64 rd] 67 wr.heap.size 2 rfl
      have n3 := World.cell?_alloc_at (w := wr) #[Value.int .u64 ra, .int .u64 rb, .int .u64 rc, .int .u64 rd] 67 wr.heap.size 3 rfl
      have hUn := (Upd.refl [] wr).alloc (Obj.cells #[Value.int .u64 ra, .int .u64 rb, .int .u64 rc, .int .u64 rd] 67)
      generalize wr.alloc (Obj.cells #[Value.int .u64 ra, .int .u64 rb, .int .u64 rc, .int .u64 rd] 67) = W at *
      have g0 := hUn.cell1 e0 (by simp)
      have g1 := hUn.cell1 e1 (by simp)
      simp only [List.getElem?_toArray, List.getElem?_cons_zero, List.getElem?_cons_succ] at n0 n1 n2 n3
      have hHW := hH.kept hUn (by simp) (by simp)
      have hmeth := mapp_i16 p
      refine wp_region_split (S := Upd [] W) [(true, 0), (true, 1), (true, 2), (true, 3), (true, 4), (true, 6), (true, 7)] [5] [8] (by kernel_rfl) (by kernel_rfl) (fun _ _ d _ _ h => by cases d <;> exact h) ((Upd.refl _ _).drew) ?_
      simp only [readsAt, opersAt, Option.map_some, List.filterMap_cons, List.filterMap_nil, List.getElem?_toArray, List.getElem?_cons_succ, List.getElem?_cons_zero]
      iterate 7 (refine ⟨_, Or.inl ⟨by rfl, fun w' hS => by first | (have q0 := Upd.cell1 hS g0 (by simp); have q1 := Upd.cell1 hS g1 (by simp); have q2 := Upd.cell1 hS n0 (by simp); have q3 := Upd.cell1 hS n1 (by simp); have q4 := Upd.cell1 hS n2 (by simp); have q5 := Upd.cell1 hS n3 (by simp); first | (go_simp; done) | (go_simp; with_reducible rfl)) | (go_simp; done) | (go_simp; with_reducible rfl)⟩, ?_⟩; simp only [Act.put, List.setIfInBounds_toArray, List.set_cons_zero, List.set_cons_succ])
      intro L0 hL0
      rw [if_pos (by rfl)]
      go_simp; refine (vin_i16 ⟨ra, rb, rc, rd⟩ _).mono ?_; rintro e w1 ⟨rfl, hu1⟩
      refine hL0 _ _ ⟨hu1.ofDrew, ?_⟩
      clear hL0 L0
      try simp only [preThen]
      change wpList _ _ _ [_] _ _
      have hH1 := hHW.kept hu1.ofDrew (by simp) (by simp)
      have hUw := (hUn.trans hu1.ofDrew (fun _ h => .inl h))
      go_wp2_with (go_at_call 209; (with_reducible refine (vapp_i16 p _ _ _ _ _ _ hH1 (by omega)).mono ?_); rintro e w2 ⟨rfl, ao2, c2, hH2, hU2, hI2⟩)
      have hUx : Upd (p :: bk ao) W0 w2 := (hU.trans (hUw.mono (by simp) : Upd (p :: bk ao) wr w1) (fun _ h => .inl h)).trans hU2 (fun y hy => by
        rcases List.mem_cons.1 hy with h | h
        · exact .inl (by rw [h]; exact List.mem_cons_self)
        · rcases hI y h with h' | h'
          · exact .inl (List.mem_cons_of_mem _ h')
          · exact .inr h')
      have hIx : In (bk ao) W0.heap.size ao2 := hI.step hI2 (Nat.le_trans hU.size hUw.size)
      have hHx : Hold w2 p 112 113 1 ao2 (m + (k + 1)) c2 (xs ++ (rs.take (k + 1)).flatMap cells_i16) := by
        rw [flatMap_take_succ _ _ _ (by omega), ← HX.out, ← List.append_assoc]
        exact hH2
      clear hH2 hU2 hI2 hH1 hHW
      go_roundw
      case rel => exact ⟨k + 1, ao2, c2, by omega, by go_num, hHx, hUx, hIx⟩
      case measure => simp [intOf]; omega
    · have hk0 : n ≤ k := by omega
      obtain rfl : k = n := by omega
      go_wp2
      go_end0
      refine ⟨rfl, ao', c', ?_, (hU0.mono (by simp)).trans hU (fun _ h => .inl h), hI.le hU0.size⟩
      rw [List.take_of_length_le (by omega)] at hH
      exact hH
set_option maxRecDepth 100000 in
set_option maxHeartbeats 1000000 in
theorem at_i16 (p g n c : Nat) (rs : List R4) (i : Nat) (hi : i < rs.length) (w : World) (hrs : ∀ r ∈ rs, Ok4 r) (h : Hold w p 112 113 1 (some ⟨g, 0, none⟩) n c (rs.flatMap cells_i16)) (hl : rs.length = n) :
    Calls Tryz.prog 221 #[V_i16 p, .int .i64 i] w fun e w' => e = .returned (kept_i16 rs[i]).agg ∧ Upd [] w w' := by
  obtain ⟨r, hx⟩ : ∃ r, r = rs[i] := ⟨_, rfl⟩
  have hr : Ok4 r := hrs r (by rw [hx]; exact List.getElem_mem _)
  have hpc := flat_piece (m := 1) (h.own.view 0 _ (fun j v hj => by rw [Nat.zero_add]; exact hj)) (fun _ => by first | rfl | exact lowV_len _ _ _) i hi
  rw [← hx] at hpc ⊢
  rw [Nat.mul_comm] at hpc
  have hgl : g < w.heap.size := h.own.lt g (by simp)
  clear hx
  go_enter Tryz.func221, Tryz.ntmps221
  simp only [V_i16]
  go_wp2
  obtain ⟨k1, u1, s1⟩ := alloc_facts w (Obj.cells #[.iface 110 (.pointer (some ⟨p, 0, none⟩)), .func (Fn.func 38) #[] #[], .func (Fn.func 39) #[] #[]] 119)
  obtain ⟨k2, u2, s2⟩ := alloc_facts (w.alloc (Obj.cells #[.iface 110 (.pointer (some ⟨p, 0, none⟩)), .func (Fn.func 38) #[] #[], .func (Fn.func 39) #[] #[]] 119)) (Obj.cells #[.int .u64 0, .int .u64 0, .int .u64 0, .int .u64 0] 67)
  generalize (w.alloc (Obj.cells #[.iface 110 (.pointer (some ⟨p, 0, none⟩)), .func (Fn.func 38) #[] #[], .func (Fn.func 39) #[] #[]] 119)).alloc (Obj.cells #[.int .u64 0, .int .u64 0, .int .u64 0, .int .u64 0] 67) = W at *
  rw [s1] at k2 s2
  have u12 := u1.trans u2 (fun _ h => .inl h)
  have hh := h.kept u12 (by simp) (by simp)
  have kk := u2.at k1 (by simp)
  have q0 : W.cell? ⟨w.heap.size, 0, none⟩ = some (.iface 110 (.pointer (some ⟨p, 0, none⟩))) := by simp [World.cell?, kk]
  have q2 : W.cell? ⟨w.heap.size, 2, none⟩ = some (.func (Fn.func 39) #[] #[]) := by simp [World.cell?, kk]
  clear k1 u1 kk u2
  have hrow := (Upd.refl [] W).drew.range (u12.range hpc hgl (by simp)) (Nat.lt_of_lt_of_le hgl u12.size) (by simp)
  have hmr := mrow_i16 p W.drew _ hh.cell
  refine wp_region_split (S := Upd [] W) [(true, 0), (true, 1), (true, 2), (true, 3), (true, 4)] [5] [6, 7] (by kernel_rfl) (by kernel_rfl) (fun _ _ d _ _ h => by cases d <;> exact h) ((Upd.refl _ _).drew) ?_
  simp only [readsAt, opersAt, Option.map_some, List.filterMap_cons, List.filterMap_nil, List.getElem?_toArray, List.getElem?_cons_succ, List.getElem?_cons_zero]
  iterate 5 (refine ⟨_, Or.inl ⟨by rfl, fun w' hS => by first | (have e0 := Upd.cell1 hS q0 (by simp); have e1 := Upd.cell1 hS q2 (by simp); first | (go_simp; done) | (go_simp; with_reducible rfl)) | (go_simp; done) | (go_simp; with_reducible rfl)⟩, ?_⟩; simp only [Act.put, List.setIfInBounds_toArray, List.set_cons_zero, List.set_cons_succ])
  intro L0 hL0
  rw [if_pos (by rfl)]
  go_simp; refine (vrow_i16 g n c i r _ hrow (Nat.lt_of_lt_of_le hgl u12.size) (by omega)).mono ?_; rintro e w1 ⟨rfl, hu1⟩
  refine hL0 _ _ ⟨hu1.ofDrew, ?_⟩
  clear hL0 L0
  try simp only [preThen]
  change wpList _ _ _ [_, _] _ _
  have m1 := hu1.ofDrew.at k2 (by simp)
  go_wp2_with (first
    | (go_at_call 39; (refine (vout_i16 r hr _).mono ?_); rintro e w2 ⟨rfl, hu2⟩; have m2 := hu2.at m1 (by simp))
    | ((with_reducible show wpList _ _ _ _ _ _); refine wpList_store_blk rfl 67 (.tmp 4) (.tmp 11) rfl (b := w.heap.size + 1) rfl m2 (cs := (kept_i16 r).cells) rfl rfl (by kernel_rfl) (by simp [R4.cells, Value.oneCell']) ?_; intro w4 hb4 hu4; simp only [Act.put]))
  refine bodyPost_ret (results_cell1 Tryz.results221 (b := w.heap.size + 1) rfl (run_loadVar_mid w4 (w.heap.size + 1) 0 67 (kept_i16 r).cells _ (rangeAt_blk hb4) Tryz.underlying67 rfl (by kernel_rfl))) rfl ⟨rfl, ?_⟩
  exact ((u12.trans hu1.ofDrew (fun _ h => .inl h)).trans hu2 (fun _ h => .inl h)).trans hu4 (fun y hy => by simp at hy; exact .inr (by omega))
theorem mapp_i32 (p : Nat) (w : World) : (method 625 120 (.pointer (some ⟨p, 0, none⟩)) "Append").run Tryz.prog w = .ok (222, .pointer (some ⟨p, 0, none⟩)) w := by kernel_rfl
theorem mrow1_i32 (k p : Nat) (w : World) : (method (k + 1) 120 (.pointer (some ⟨p, 0, none⟩)) "Row").run Tryz.prog w = (do let v ← receiverAt 120 (.val (.pointer (some ⟨p, 0, none⟩))) false (some "Row"); pure (226, v) : Sem (FuncId × Value)).run Tryz.prog w := by kernel_rfl
theorem mrow2_i32 (p : Nat) (w : World) : (receiverAt 120 (.val (.pointer (some ⟨p, 0, none⟩))) false (some "Row")).run Tryz.prog w = (loadVar 122 ⟨p, 0, none⟩).run Tryz.prog w := by kernel_rfl
theorem load_i32 (p : Nat) (w : World) (v : Value) (h : w.cell? ⟨p, 0, none⟩ = some v) : (loadVar 122 ⟨p, 0, none⟩).run Tryz.prog w = .ok v w := by go_simp
theorem mrow_i32 (p : Nat) (w : World) (v : Value) (h : w.cell? ⟨p, 0, none⟩ = some v) : (method 625 120 (.pointer (some ⟨p, 0, none⟩)) "Row").run Tryz.prog w = .ok (226, v) w := by
  rw [show 625 = (625 - 1) + 1 from rfl, mrow1_i32]
  simp only [Sem.run_bind, mrow2_i32, load_i32 p w v h, Result.andThen_ok, Sem.run_pure]
set_option maxRecDepth 100000 in
set_option maxHeartbeats 1000000 in
theorem add_i32 (p : Nat) (ar : Option Addr) (n c : Nat) (rs : List R4) (ao : Option Addr) (m cp : Nat) (xs : List Value) (w : World) (hr : View w 4 ar n (rs.flatMap R4.cells)) (hc : Hold w p 122 21 1 ao m cp xs)
    (hap : 0 < n → Apart ar p ao) (hn : n ≤ 1000) (hm : m ≤ 100000) :
    Calls Tryz.prog 230 #[V_i32 p, .slice ar n c] w fun e w' => e = .returned (.tuple #[]) ∧ Grew w w' p 122 21 1 ao (m + n) (xs ++ rs.flatMap cells_i32) := by
  have hrl : rs.length = n := by have := hr.len; rw [flatMap_len _ 4 R4.cells_len] at this; omega
  have hpw := hc.lt
  go_enter Tryz.func230, Tryz.ntmps230
  simp only [V_i32]
  go_wp2
  have hcB : (w.alloc (Obj.cells #[.iface 120 (.pointer (some ⟨p, 0, none⟩)), .func (Fn.func 40) #[] #[], .func (Fn.func 41) #[] #[]] 128)).heap[w.heap.size]? = some (Obj.cells #[.iface 120 (.pointer (some ⟨p, 0, none⟩)), .func (Fn.func 40) #[] #[], .func (Fn.func 41) #[] #[]] 128) := heap_alloc_new _ _
  have hU0 := (Upd.refl [] w).alloc (Obj.cells #[.iface 120 (.pointer (some ⟨p, 0, none⟩)), .func (Fn.func 40) #[] #[], .func (Fn.func 41) #[] #[]] 128)
  have hBn : w.heap.size ∉ p :: bk ao := fun h => by
    rcases List.mem_cons.1 h with h | h
    · omega
    · have := hc.bk_lt _ h; omega
  have hBl := lt_of_block hcB
  generalize w.alloc (Obj.cells #[.iface 120 (.pointer (some ⟨p, 0, none⟩)), .func (Fn.func 40) #[] #[], .func (Fn.func 41) #[] #[]] 128) = W0 at *
  have hc0 := hc.kept hU0 (by simp) (by simp)
  have hr0 := hr.upd hU0 (by simp)
  go_loopw [8] (fun i wr => ∃ (k : Nat) (ao' : Option Addr) (c' : Nat), k ≤ n ∧ i = .int .i64 k ∧ Hold wr p 122 21 1 ao' (m + k) c' (xs ++ (rs.take k).flatMap cells_i32) ∧ Upd (p :: bk ao) W0 wr ∧ In (bk ao) W0.heap.size ao')
    (fun i _ => n - (intOf i).toNat)
  case atStart => exact ⟨0, ao, cp, Nat.zero_le _, rfl, by simpa using hc0, Upd.refl _ _, In.self (fun _ h => h)⟩
  case round =>
    obtain ⟨k, ao', c', hk, rfl, hH, hU, hI⟩ := hrel
    by_cases hlt : k < n
    · have hk0 : ((k : Int) < n) := by omega
      obtain ⟨b, o, rfl, hrr, hbb⟩ := hr0.at_ (by omega)
      have hbn : b ∉ p :: bk ao := (hap (by omega)).not b (by simp)
      obtain ⟨r, hx⟩ : ∃ r, r = rs[k]'(by omega) := ⟨_, rfl⟩
      have hcell : ∀ j, j < 4 → wr.cell? ⟨b, o + k * 4 + j, none⟩ = r.cells[j]? := fun j hj => by
        rw [hU.cell hbb hbn, Nat.add_assoc]
        have h1 := rows_get rs k (by omega) j hj
        rw [← hx] at h1
        obtain ⟨u, hu⟩ : ∃ u, r.cells[j]? = some u := ⟨r.cells[j]'(by rw [R4.cells_len]; omega), by simp⟩
        rw [hu]
        exact hrr (k * 4 + j) u (h1.trans hu)
      have d0 := hcell 0 (by omega)
      have d1 := hcell 1 (by omega)
      have d2 := hcell 2 (by omega)
      have d3 := hcell 3 (by omega)
      have HX := Lib.hid hx
      clear hx hcell
      obtain ⟨ra, rb, rc, rd⟩ := r
      simp only [R4.cells, Nat.add_zero, List.getElem?_cons_zero, List.getElem?_cons_succ] at d0 d1 d2 d3
      have hB := hU.at hcB hBn
      have e0 : wr.cell? ⟨w.heap.size, 0, none⟩ = some (.iface 120 (.pointer (some ⟨p, 0, none⟩))) := by simp [World.cell?, hB]
      have e1 : wr.cell? ⟨w.heap.size, 1, none⟩ = some (.func (Fn.func 40) #[] #[]) := by simp [World.cell?, hB]
      have hBw := lt_of_block hB
      go_wp2
      have n0 := World.cell?_alloc_at (w := wr) #[Value.int .u64 ra, .int .u64 rb, .int .u64 rc, .int .u64 rd] 67 wr.heap.size 0 rfl
      have n1 := World.cell?_alloc_at (w := wr) #[Value.int .u64 ra, .int .u64 rb, .int .u64 rc, .int .u64 rd] 67 wr.heap.size 1 rfl
      have n2 := World.cell?_alloc_at (w := wr) #[Value.int .u64 ra, .int .u64 rb, .int .u64 rc, .int .u64 rd] 67 wr.heap.size 2 rfl
      have n3 := World.cell?_alloc_at (w := wr) #[Value.int .u64 ra, .int .u64 rb, .int .u64 rc, .int .u64 rd] 67 wr.heap.size 3 rfl
      have hUn := (Upd.refl [] wr).alloc (Obj.cells #[Value.int .u64 ra, .int .u64 rb, .int .u64 rc, .int .u64 rd] 67)
      generalize wr.alloc (Obj.cells #[Value.int .u64 ra, .int .u64 rb, .int .u64 rc, .int .u64 rd] 67) = W at *
      have g0 := hUn.cell1 e0 (by simp)
      have g1 := hUn.cell1 e1 (by simp)
      simp only [List.getElem?_toArray, List.getElem?_cons_zero, List.getElem?_cons_succ] at n0 n1 n2 n3
      have hHW := hH.kept hUn (by simp) (by simp)
      have hmeth := mapp_i32 p
      refine wp_region_split (S := Upd [] W) [(true, 0), (true, 1), (true, 2), (true, 3), (true, 4), (true, 6), (true, 7)] [5] [8] (by kernel_rfl) (by kernel_rfl) (fun _ _ d _ _ h => by cases d <;> exact h) ((Upd.refl _ _).drew) ?_
      simp only [readsAt, opersAt, Option.map_some, List.filterMap_cons, List.filterMap_nil, List.getElem?_toArray, List.getElem?_cons_succ, List.getElem?_cons_zero]
      iterate 7 (refine ⟨_, Or.inl ⟨by rfl, fun w' hS => by first | (have q0 := Upd.cell1 hS g0 (by simp); have q1 := Upd.cell1 hS g1 (by simp); have q2 := Upd.cell1 hS n0 (by simp); have q3 := Upd.cell1 hS n1 (by simp); have q4 := Upd.cell1 hS n2 (by simp); have q5 := Upd.cell1 hS n3 (by simp); first | (go_simp; done) | (go_simp; with_reducible rfl)) | (go_simp; done) | (go_simp; with_reducible rfl)⟩, ?_⟩; simp only [Act.put, List.setIfInBounds_toArray, List.set_cons_zero, List.set_cons_succ])
      intro L0 hL0
      rw [if_pos (by rfl)]
      go_simp; refine (vin_i32 ⟨ra, rb, rc, rd⟩ _).mono ?_; rintro e w1 ⟨rfl, hu1⟩
      refine hL0 _ _ ⟨hu1.ofDrew, ?_⟩
      clear hL0 L0
      try simp only [preThen]
      change wpList _ _ _ [_] _ _
      have hH1 := hHW.kept hu1.ofDrew (by simp) (by simp)
      have hUw := (hUn.trans hu1.ofDrew (fun _ h => .inl h))
      go_wp2_with (go_at_call 222; (with_reducible refine (vapp_i32 p _ _ _ _ _ _ hH1 (by omega)).mono ?_); rintro e w2 ⟨rfl, ao2, c2, hH2, hU2, hI2⟩)
      have hUx : Upd (p :: bk ao) W0 w2 := (hU.trans (hUw.mono (by simp) : Upd (p :: bk ao) wr w1) (fun _ h => .inl h)).trans hU2 (fun y hy => by
        rcases List.mem_cons.1 hy with h | h
        · exact .inl (by rw [h]; exact List.mem_cons_self)
        · rcases hI y h with h' | h'
          · exact .inl (List.mem_cons_of_mem _ h')
          · exact .inr h')
      have hIx : In (bk ao) W0.heap.size ao2 := hI.step hI2 (Nat.le_trans hU.size hUw.size)
      have hHx : Hold w2 p 122 21 1 ao2 (m + (k + 1)) c2 (xs ++ (rs.take (k + 1)).flatMap cells_i32) := by
        rw [flatMap_take_succ _ _ _ (by omega), ← HX.out, ← List.append_assoc]
        exact hH2
      clear hH2 hU2 hI2 hH1 hHW
      go_roundw
      case rel => exact ⟨k + 1, ao2, c2, by omega, by go_num, hHx, hUx, hIx⟩
      case measure => simp [intOf]; omega
    · have hk0 : n ≤ k := by omega
      obtain rfl : k = n := by omega
      go_wp2
      go_end0
      refine ⟨rfl, ao', c', ?_, (hU0.mono (by simp)).trans hU (fun _ h => .inl h), hI.le hU0.size⟩
      rw [List.take_of_length_le (by omega)] at hH
      exact hH
set_option maxRecDepth 100000 in
set_option maxHeartbeats 1000000 in
theorem at_i32 (p g n c : Nat) (rs : List R4) (i : Nat) (hi : i < rs.length) (w : World) (hrs : ∀ r ∈ rs, Ok4 r) (h : Hold w p 122 21 1 (some ⟨g, 0, none⟩) n c (rs.flatMap cells_i32)) (hl : rs.length = n) :
    Calls Tryz.prog 232 #[V_i32 p, .int .i64 i] w fun e w' => e = .returned (kept_i32 rs[i]).agg ∧ Upd [] w w' := by
  obtain ⟨r, hx⟩ : ∃ r, r = rs[i] := ⟨_, rfl⟩
  have hr : Ok4 r := hrs r (by rw [hx]; exact List.getElem_mem _)
  have hpc := flat_piece (m := 1) (h.own.view 0 _ (fun j v hj => by rw [Nat.zero_add]; exact hj)) (fun _ => by first | rfl | exact lowV_len _ _ _) i hi
  rw [← hx] at hpc ⊢
  rw [Nat.mul_comm] at hpc
  have hgl : g < w.heap.size := h.own.lt g (by simp)
  clear hx
  go_enter Tryz.func232, Tryz.ntmps232
  simp only [V_i32]
  go_wp2
  obtain ⟨k1, u1, s1⟩ := alloc_facts w (Obj.cells #[.iface 120 (.pointer (some ⟨p, 0, none⟩)), .func (Fn.func 40) #[] #[], .func (Fn.func 41) #[] #[]] 128)
  obtain ⟨k2, u2, s2⟩ := alloc_facts (w.alloc (Obj.cells #[.iface 120 (.pointer (some ⟨p, 0, none⟩)), .func (Fn.func 40) #[] #[], .func (Fn.func 41) #[] #[]] 128)) (Obj.cells #[.int .u64 0, .int .u64 0, .int .u64 0, .int .u64 0] 67)
  generalize (w.alloc (Obj.cells #[.iface 120 (.pointer (some ⟨p, 0, none⟩)), .func (Fn.func 40) #[] #[], .func (Fn.func 41) #[] #[]] 128)).alloc (Obj.cells #[.int .u64 0, .int .u64 0, .int .u64 0, .int .u64 0] 67) = W at *
  rw [s1] at k2 s2
  have u12 := u1.trans u2 (fun _ h => .inl h)
  have hh := h.kept u12 (by simp) (by simp)
  have kk := u2.at k1 (by simp)
  have q0 : W.cell? ⟨w.heap.size, 0, none⟩ = some (.iface 120 (.pointer (some ⟨p, 0, none⟩))) := by simp [World.cell?, kk]
  have q2 : W.cell? ⟨w.heap.size, 2, none⟩ = some (.func (Fn.func 41) #[] #[]) := by simp [World.cell?, kk]
  clear k1 u1 kk u2
  have hrow := (Upd.refl [] W).drew.range (u12.range hpc hgl (by simp)) (Nat.lt_of_lt_of_le hgl u12.size) (by simp)
  have hmr := mrow_i32 p W.drew _ hh.cell
  refine wp_region_split (S := Upd [] W) [(true, 0), (true, 1), (true, 2), (true, 3), (true, 4)] [5] [6, 7] (by kernel_rfl) (by kernel_rfl) (fun _ _ d _ _ h => by cases d <;> exact h) ((Upd.refl _ _).drew) ?_
  simp only [readsAt, opersAt, Option.map_some, List.filterMap_cons, List.filterMap_nil, List.getElem?_toArray, List.getElem?_cons_succ, List.getElem?_cons_zero]
  iterate 5 (refine ⟨_, Or.inl ⟨by rfl, fun w' hS => by first | (have e0 := Upd.cell1 hS q0 (by simp); have e1 := Upd.cell1 hS q2 (by simp); first | (go_simp; done) | (go_simp; with_reducible rfl)) | (go_simp; done) | (go_simp; with_reducible rfl)⟩, ?_⟩; simp only [Act.put, List.setIfInBounds_toArray, List.set_cons_zero, List.set_cons_succ])
  intro L0 hL0
  rw [if_pos (by rfl)]
  go_simp; refine (vrow_i32 g n c i r _ hrow (Nat.lt_of_lt_of_le hgl u12.size) (by omega)).mono ?_; rintro e w1 ⟨rfl, hu1⟩
  refine hL0 _ _ ⟨hu1.ofDrew, ?_⟩
  clear hL0 L0
  try simp only [preThen]
  change wpList _ _ _ [_, _] _ _
  have m1 := hu1.ofDrew.at k2 (by simp)
  go_wp2_with (first
    | (go_at_call 41; (refine (vout_i32 r hr _).mono ?_); rintro e w2 ⟨rfl, hu2⟩; have m2 := hu2.at m1 (by simp))
    | ((with_reducible show wpList _ _ _ _ _ _); refine wpList_store_blk rfl 67 (.tmp 4) (.tmp 11) rfl (b := w.heap.size + 1) rfl m2 (cs := (kept_i32 r).cells) rfl rfl (by kernel_rfl) (by simp [R4.cells, Value.oneCell']) ?_; intro w4 hb4 hu4; simp only [Act.put]))
  refine bodyPost_ret (results_cell1 Tryz.results232 (b := w.heap.size + 1) rfl (run_loadVar_mid w4 (w.heap.size + 1) 0 67 (kept_i32 r).cells _ (rangeAt_blk hb4) Tryz.underlying67 rfl (by kernel_rfl))) rfl ⟨rfl, ?_⟩
  exact ((u12.trans hu1.ofDrew (fun _ h => .inl h)).trans hu2 (fun _ h => .inl h)).trans hu4 (fun y hy => by simp at hy; exact .inr (by omega))
theorem mapp_i64 (p : Nat) (w : World) : (method 625 129 (.pointer (some ⟨p, 0, none⟩)) "Append").run Tryz.prog w = .ok (233, .pointer (some ⟨p, 0, none⟩)) w := by kernel_rfl
theorem mrow1_i64 (k p : Nat) (w : World) : (method (k + 1) 129 (.pointer (some ⟨p, 0, none⟩)) "Row").run Tryz.prog w = (do let v ← receiverAt 129 (.val (.pointer (some ⟨p, 0, none⟩))) false (some "Row"); pure (237, v) : Sem (FuncId × Value)).run Tryz.prog w := by kernel_rfl
theorem mrow2_i64 (p : Nat) (w : World) : (receiverAt 129 (.val (.pointer (some ⟨p, 0, none⟩))) false (some "Row")).run Tryz.prog w = (loadVar 131 ⟨p, 0, none⟩).run Tryz.prog w := by kernel_rfl
theorem load_i64 (p : Nat) (w : World) (v : Value) (h : w.cell? ⟨p, 0, none⟩ = some v) : (loadVar 131 ⟨p, 0, none⟩).run Tryz.prog w = .ok v w := by go_simp
theorem mrow_i64 (p : Nat) (w : World) (v : Value) (h : w.cell? ⟨p, 0, none⟩ = some v) : (method 625 129 (.pointer (some ⟨p, 0, none⟩)) "Row").run Tryz.prog w = .ok (237, v) w := by
  rw [show 625 = (625 - 1) + 1 from rfl, mrow1_i64]
  simp only [Sem.run_bind, mrow2_i64, load_i64 p w v h, Result.andThen_ok, Sem.run_pure]
set_option maxRecDepth 100000 in
set_option maxHeartbeats 1000000 in
theorem add_i64 (p : Nat) (ar : Option Addr) (n c : Nat) (rs : List R4) (ao : Option Addr) (m cp : Nat) (xs : List Value) (w : World) (hr : View w 4 ar n (rs.flatMap R4.cells)) (hc : Hold w p 131 2 1 ao m cp xs)
    (hap : 0 < n → Apart ar p ao) (hn : n ≤ 1000) (hm : m ≤ 100000) :
    Calls Tryz.prog 243 #[V_i64 p, .slice ar n c] w fun e w' => e = .returned (.tuple #[]) ∧ Grew w w' p 131 2 1 ao (m + n) (xs ++ rs.flatMap cells_i64) := by
  have hrl : rs.length = n := by have := hr.len; rw [flatMap_len _ 4 R4.cells_len] at this; omega
  have hpw := hc.lt
  go_enter Tryz.func243, Tryz.ntmps243
  simp only [V_i64]
  go_wp2
  have hcB : (w.alloc (Obj.cells #[.iface 129 (.pointer (some ⟨p, 0, none⟩)), .func (Fn.func 42) #[] #[], .func (Fn.func 43) #[] #[]] 137)).heap[w.heap.size]? = some (Obj.cells #[.iface 129 (.pointer (some ⟨p, 0, none⟩)), .func (Fn.func 42) #[] #[], .func (Fn.func 43) #[] #[]] 137) := heap_alloc_new _ _
  have hU0 := (Upd.refl [] w).alloc (Obj.cells #[.iface 129 (.pointer (some ⟨p, 0, none⟩)), .func (Fn.func 42) #[] #[], .func (Fn.func 43) #[] #[]] 137)
  have hBn : w.heap.size ∉ p :: bk ao := fun h => by
    rcases List.mem_cons.1 h with h | h
    · omega
    · have := hc.bk_lt _ h; omega
  have hBl := lt_of_block hcB
  generalize w.alloc (Obj.cells #[.iface 129 (.pointer (some ⟨p, 0, none⟩)), .func (Fn.func 42) #[] #[], .func (Fn.func 43) #[] #[]] 137) = W0 at *
  have hc0 := hc.kept hU0 (by simp) (by simp)
  have hr0 := hr.upd hU0 (by simp)
  go_loopw [8] (fun i wr => ∃ (k : Nat) (ao' : Option Addr) (c' : Nat), k ≤ n ∧ i = .int .i64 k ∧ Hold wr p 131 2 1 ao' (m + k) c' (xs ++ (rs.take k).flatMap cells_i64) ∧ Upd (p :: bk ao) W0 wr ∧ In (bk ao) W0.heap.size ao')
    (fun i _ => n - (intOf i).toNat)
  case atStart => exact ⟨0, ao, cp, Nat.zero_le _, rfl, by simpa using hc0, Upd.refl _ _, In.self (fun _ h => h)⟩
  case round =>
    obtain ⟨k, ao', c', hk, rfl, hH, hU, hI⟩ := hrel
    by_cases hlt : k < n
    · have hk0 : ((k : Int) < n) := by omega
      obtain ⟨b, o, rfl, hrr, hbb⟩ := hr0.at_ (by omega)
      have hbn : b ∉ p :: bk ao := (hap (by omega)).not b (by simp)
      obtain ⟨r, hx⟩ : ∃ r, r = rs[k]'(by omega) := ⟨_, rfl⟩
      have hcell : ∀ j, j < 4 → wr.cell? ⟨b, o + k * 4 + j, none⟩ = r.cells[j]? := fun j hj => by
        rw [hU.cell hbb hbn, Nat.add_assoc]
        have h1 := rows_get rs k (by omega) j hj
        rw [← hx] at h1
        obtain ⟨u, hu⟩ : ∃ u, r.cells[j]? = some u := ⟨r.cells[j]'(by rw [R4.cells_len]; omega), by simp⟩
        rw [hu]
        exact hrr (k * 4 + j) u (h1.trans hu)
      have d0 := hcell 0 (by omega)
      have d1 := hcell 1 (by omega)
      have d2 := hcell 2 (by omega)
      have d3 := hcell 3 (by omega)
      have HX := Lib.hid hx
      clear hx hcell
      obtain ⟨ra, rb, rc, rd⟩ := r
      simp only [R4.cells, Nat.add_zero, List.getElem?_cons_zero, List.getElem?_cons_succ] at d0 d1 d2 d3
      have hB := hU.at hcB hBn
      have e0 : wr.cell? ⟨w.heap.size, 0, none⟩ = some (.iface 129 (.pointer (some ⟨p, 0, none⟩))) := by simp [World.cell?, hB]
      have e1 : wr.cell? ⟨w.heap.size, 1, none⟩ = some (.func (Fn.func 42) #[] #[]) := by simp [World.cell?, hB]
      have hBw := lt_of_block hB
      go_wp2
      have n0 := World.cell?_alloc_at (w := wr) #[Value.int .u64 ra, .int .u64 rb, .int .u64 rc, .int .u64 rd] 67 wr.heap.size 0 rfl
      have n1 := World.cell?_alloc_at (w := wr) #[Value.int .u64 ra, .int .u64 rb, .int .u64 rc, .int .u64 rd] 67 wr.heap.size 1 rfl
      have n2 := World.cell?_alloc_at (w := wr) #[Value.int .u64 ra, .int .u64 rb, .int .u64 rc, .int .u64 rd] 67 wr.heap.size 2 rfl
      have n3 := World.cell?_alloc_at (w := wr) #[Value.int .u64 ra, .int .u64 rb, .int .u64 rc, .int .u64 rd] 67 wr.heap.size 3 rfl
      have hUn := (Upd.refl [] wr).alloc (Obj.cells #[Value.int .u64 ra, .int .u64 rb, .int .u64 rc, .int .u64 rd] 67)
      generalize wr.alloc (Obj.cells #[Value.int .u64 ra, .int .u64 rb, .int .u64 rc, .int .u64 rd] 67) = W at *
      have g0 := hUn.cell1 e0 (by simp)
      have g1 := hUn.cell1 e1 (by simp)
      simp only [List.getElem?_toArray, List.getElem?_cons_zero, List.getElem?_cons_succ] at n0 n1 n2 n3
      have hHW := hH.kept hUn (by simp) (by simp)
      have hmeth := mapp_i64 p
      refine wp_region_split (S := Upd [] W) [(true, 0), (true, 1), (true, 2), (true, 3), (true, 4), (true, 6), (true, 7)] [5] [8] (by kernel_rfl) (by kernel_rfl) (fun _ _ d _ _ h => by cases d <;> exact h) ((Upd.refl _ _).drew) ?_
      simp only [readsAt, opersAt, Option.map_some, List.filterMap_cons, List.filterMap_nil, List.getElem?_toArray, List.getElem?_cons_succ, List.getElem?_cons_zero]
      iterate 7 (refine ⟨_, Or.inl ⟨by rfl, fun w' hS => by first | (have q0 := Upd.cell1 hS g0 (by simp); have q1 := Upd.cell1 hS g1 (by simp); have q2 := Upd.cell1 hS n0 (by simp); have q3 := Upd.cell1 hS n1 (by simp); have q4 := Upd.cell1 hS n2 (by simp); have q5 := Upd.cell1 hS n3 (by simp); first | (go_simp; done) | (go_simp; with_reducible rfl)) | (go_simp; done) | (go_simp; with_reducible rfl)⟩, ?_⟩; simp only [Act.put, List.setIfInBounds_toArray, List.set_cons_zero, List.set_cons_succ])
      intro L0 hL0
      rw [if_pos (by rfl)]
      go_simp; refine (vin_i64 ⟨ra, rb, rc, rd⟩ _).mono ?_; rintro e w1 ⟨rfl, hu1⟩
      refine hL0 _ _ ⟨hu1.ofDrew, ?_⟩
      clear hL0 L0
      try simp only [preThen]
      change wpList _ _ _ [_] _ _
      have hH1 := hHW.kept hu1.ofDrew (by simp) (by simp)
      have hUw := (hUn.trans hu1.ofDrew (fun _ h => .inl h))
      go_wp2_with (go_at_call 233; (with_reducible refine (vapp_i64 p _ _ _ _ _ _ hH1 (by omega)).mono ?_); rintro e w2 ⟨rfl, ao2, c2, hH2, hU2, hI2⟩)
      have hUx : Upd (p :: bk ao) W0 w2 := (hU.trans (hUw.mono (by simp) : Upd (p :: bk ao) wr w1) (fun _ h => .inl h)).trans hU2 (fun y hy => by
        rcases List.mem_cons.1 hy with h | h
        · exact .inl (by rw [h]; exact List.mem_cons_self)
        · rcases hI y h with h' | h'
          · exact .inl (List.mem_cons_of_mem _ h')
          · exact .inr h')
      have hIx : In (bk ao) W0.heap.size ao2 := hI.step hI2 (Nat.le_trans hU.size hUw.size)
      have hHx : Hold w2 p 131 2 1 ao2 (m + (k + 1)) c2 (xs ++ (rs.take (k + 1)).flatMap cells_i64) := by
        rw [flatMap_take_succ _ _ _ (by omega), ← HX.out, ← List.append_assoc]
        exact hH2
      clear hH2 hU2 hI2 hH1 hHW
      go_roundw
      case rel => exact ⟨k + 1, ao2, c2, by omega, by go_num, hHx, hUx, hIx⟩
      case measure => simp [intOf]; omega
    · have hk0 : n ≤ k := by omega
      obtain rfl : k = n := by omega
      go_wp2
      go_end0
      refine ⟨rfl, ao', c', ?_, (hU0.mono (by simp)).trans hU (fun _ h => .inl h), hI.le hU0.size⟩
      rw [List.take_of_length_le (by omega)] at hH
      exact hH
set_option maxRecDepth 100000 in
set_option maxHeartbeats 1000000 in
theorem at_i64 (p g n c : Nat) (rs : List R4) (i : Nat) (hi : i < rs.length) (w : World) (hrs : ∀ r ∈ rs, Ok4 r) (h : Hold w p 131 2 1 (some ⟨g, 0, none⟩) n c (rs.flatMap cells_i64)) (hl : rs.length = n) :
    Calls Tryz.prog 245 #[V_i64 p, .int .i64 i] w fun e w' => e = .returned (kept_i64 rs[i]).agg ∧ Upd [] w w' := by
  obtain ⟨r, hx⟩ : ∃ r, r = rs[i] := ⟨_, rfl⟩
  have hr : Ok4 r := hrs r (by rw [hx]; exact List.getElem_mem _)
  have hpc := flat_piece (m := 1) (h.own.view 0 _ (fun j v hj => by rw [Nat.zero_add]; exact hj)) (fun _ => by first | rfl | exact lowV_len _ _ _) i hi
  rw [← hx] at hpc ⊢
  rw [Nat.mul_comm] at hpc
  have hgl : g < w.heap.size := h.own.lt g (by simp)
  clear hx
  go_enter Tryz.func245, Tryz.ntmps245
  simp only [V_i64]
  go_wp2
  obtain ⟨k1, u1, s1⟩ := alloc_facts w (Obj.cells #[.iface 129 (.pointer (some ⟨p, 0, none⟩)), .func (Fn.func 42) #[] #[], .func (Fn.func 43) #[] #[]] 137)
  obtain ⟨k2, u2, s2⟩ := alloc_facts (w.alloc (Obj.cells #[.iface 129 (.pointer (some ⟨p, 0, none⟩)), .func (Fn.func 42) #[] #[], .func (Fn.func 43) #[] #[]] 137)) (Obj.cells #[.int .u64 0, .int .u64 0, .int .u64 0, .int .u64 0] 67)
  generalize (w.alloc (Obj.cells #[.iface 129 (.pointer (some ⟨p, 0, none⟩)), .func (Fn.func 42) #[] #[], .func (Fn.func 43) #[] #[]] 137)).alloc (Obj.cells #[.int .u64 0, .int .u64 0, .int .u64 0, .int .u64 0] 67) = W at *
  rw [s1] at k2 s2
  have u12 := u1.trans u2 (fun _ h => .inl h)
  have hh := h.kept u12 (by simp) (by simp)
  have kk := u2.at k1 (by simp)
  have q0 : W.cell? ⟨w.heap.size, 0, none⟩ = some (.iface 129 (.pointer (some ⟨p, 0, none⟩))) := by simp [World.cell?, kk]
  have q2 : W.cell? ⟨w.heap.size, 2, none⟩ = some (.func (Fn.func 43) #[] #[]) := by simp [World.cell?, kk]
  clear k1 u1 kk u2
  have hrow := (Upd.refl [] W).drew.range (u12.range hpc hgl (by simp)) (Nat.lt_of_lt_of_le hgl u12.size) (by simp)
  have hmr := mrow_i64 p W.drew _ hh.cell
  refine wp_region_split (S := Upd [] W) [(true, 0), (true, 1), (true, 2), (true, 3), (true, 4)] [5] [6, 7] (by kernel_rfl) (by kernel_rfl) (fun _ _ d _ _ h => by cases d <;> exact h) ((Upd.refl _ _).drew) ?_
  simp only [readsAt, opersAt, Option.map_some, List.filterMap_cons, List.filterMap_nil, List.getElem?_toArray, List.getElem?_cons_succ, List.getElem?_cons_zero]
  iterate 5 (refine ⟨_, Or.inl ⟨by rfl, fun w' hS => by first | (have e0 := Upd.cell1 hS q0 (by simp); have e1 := Upd.cell1 hS q2 (by simp); first | (go_simp; done) | (go_simp; with_reducible rfl)) | (go_simp; done) | (go_simp; with_reducible rfl)⟩, ?_⟩; simp only [Act.put, List.setIfInBounds_toArray, List.set_cons_zero, List.set_cons_succ])
  intro L0 hL0
  rw [if_pos (by rfl)]
  go_simp; refine (vrow_i64 g n c i r _ hrow (Nat.lt_of_lt_of_le hgl u12.size) (by omega)).mono ?_; rintro e w1 ⟨rfl, hu1⟩
  refine hL0 _ _ ⟨hu1.ofDrew, ?_⟩
  clear hL0 L0
  try simp only [preThen]
  change wpList _ _ _ [_, _] _ _
  have m1 := hu1.ofDrew.at k2 (by simp)
  go_wp2_with (first
    | (go_at_call 43; (refine (vout_i64 r hr _).mono ?_); rintro e w2 ⟨rfl, hu2⟩; have m2 := hu2.at m1 (by simp))
    | ((with_reducible show wpList _ _ _ _ _ _); refine wpList_store_blk rfl 67 (.tmp 4) (.tmp 11) rfl (b := w.heap.size + 1) rfl m2 (cs := (kept_i64 r).cells) rfl rfl (by kernel_rfl) (by simp [R4.cells, Value.oneCell']) ?_; intro w4 hb4 hu4; simp only [Act.put]))
  refine bodyPost_ret (results_cell1 Tryz.results245 (b := w.heap.size + 1) rfl (run_loadVar_mid w4 (w.heap.size + 1) 0 67 (kept_i64 r).cells _ (rangeAt_blk hb4) Tryz.underlying67 rfl (by kernel_rfl))) rfl ⟨rfl, ?_⟩
  exact ((u12.trans hu1.ofDrew (fun _ h => .inl h)).trans hu2 (fun _ h => .inl h)).trans hu4 (fun y hy => by simp at hy; exact .inr (by omega))
theorem mapp_i128 (p : Nat) (w : World) : (method 625 138 (.pointer (some ⟨p, 0, none⟩)) "Append").run Tryz.prog w = .ok (246, .pointer (some ⟨p, 0, none⟩)) w := by kernel_rfl
theorem mrow1_i128 (k p : Nat) (w : World) : (method (k + 1) 138 (.pointer (some ⟨p, 0, none⟩)) "Row").run Tryz.prog w = (do let v ← receiverAt 138 (.val (.pointer (some ⟨p, 0, none⟩))) false (some "Row"); pure (250, v) : Sem (FuncId × Value)).run Tryz.prog w := by kernel_rfl
theorem mrow2_i128 (p : Nat) (w : World) : (receiverAt 138 (.val (.pointer (some ⟨p, 0, none⟩))) false (some "Row")).run Tryz.prog w = (loadVar 140 ⟨p, 0, none⟩).run Tryz.prog w := by kernel_rfl
theorem load_i128 (p : Nat) (w : World) (v : Value) (h : w.cell? ⟨p, 0, none⟩ = some v) : (loadVar 140 ⟨p, 0, none⟩).run Tryz.prog w = .ok v w := by go_simp
theorem mrow_i128 (p : Nat) (w : World) (v : Value) (h : w.cell? ⟨p, 0, none⟩ = some v) : (method 625 138 (.pointer (some ⟨p, 0, none⟩)) "Row").run Tryz.prog w = .ok (250, v) w := by
  rw [show 625 = (625 - 1) + 1 from rfl, mrow1_i128]
  simp only [Sem.run_bind, mrow2_i128, load_i128 p w v h, Result.andThen_ok, Sem.run_pure]
set_option maxRecDepth 100000 in
set_option maxHeartbeats 1000000 in
theorem add_i128 (p : Nat) (ar : Option Addr) (n c : Nat) (rs : List R4) (ao : Option Addr) (m cp : Nat) (xs : List Value) (w : World) (hr : View w 4 ar n (rs.flatMap R4.cells)) (hc : Hold w p 140 142 2 ao m cp xs)
    (hap : 0 < n → Apart ar p ao) (hn : n ≤ 1000) (hm : m ≤ 100000) :
    Calls Tryz.prog 258 #[V_i128 p, .slice ar n c] w fun e w' => e = .returned (.tuple #[]) ∧ Grew w w' p 140 142 2 ao (m + n) (xs ++ rs.flatMap cells_i128) := by
  have hrl : rs.length = n := by have := hr.len; rw [flatMap_len _ 4 R4.cells_len] at this; omega
  have hpw := hc.lt
  go_enter Tryz.func258, Tryz.ntmps258
  simp only [V_i128]
  go_wp2
  have hcB : (w.alloc (Obj.cells #[.iface 138 (.pointer (some ⟨p, 0, none⟩)), .func (Fn.func 44) #[] #[], .func (Fn.func 46) #[] #[]] 151)).heap[w.heap.size]? = some (Obj.cells #[.iface 138 (.pointer (some ⟨p, 0, none⟩)), .func (Fn.func 44) #[] #[], .func (Fn.func 46) #[] #[]] 151) := heap_alloc_new _ _
  have hU0 := (Upd.refl [] w).alloc (Obj.cells #[.iface 138 (.pointer (some ⟨p, 0, none⟩)), .func (Fn.func 44) #[] #[], .func (Fn.func 46) #[] #[]] 151)
  have hBn : w.heap.size ∉ p :: bk ao := fun h => by
    rcases List.mem_cons.1 h with h | h
    · omega
    · have := hc.bk_lt _ h; omega
  have hBl := lt_of_block hcB
  generalize w.alloc (Obj.cells #[.iface 138 (.pointer (some ⟨p, 0, none⟩)), .func (Fn.func 44) #[] #[], .func (Fn.func 46) #[] #[]] 151) = W0 at *
  have hc0 := hc.kept hU0 (by simp) (by simp)
  have hr0 := hr.upd hU0 (by simp)
  go_loopw [8] (fun i wr => ∃ (k : Nat) (ao' : Option Addr) (c' : Nat), k ≤ n ∧ i = .int .i64 k ∧ Hold wr p 140 142 2 ao' (m + k) c' (xs ++ (rs.take k).flatMap cells_i128) ∧ Upd (p :: bk ao) W0 wr ∧ In (bk ao) W0.heap.size ao')
    (fun i _ => n - (intOf i).toNat)
  case atStart => exact ⟨0, ao, cp, Nat.zero_le _, rfl, by simpa using hc0, Upd.refl _ _, In.self (fun _ h => h)⟩
  case round =>
    obtain ⟨k, ao', c', hk, rfl, hH, hU, hI⟩ := hrel
    by_cases hlt : k < n
    · have hk0 : ((k : Int) < n) := by omega
      obtain ⟨b, o, rfl, hrr, hbb⟩ := hr0.at_ (by omega)
      have hbn : b ∉ p :: bk ao := (hap (by omega)).not b (by simp)
      obtain ⟨r, hx⟩ : ∃ r, r = rs[k]'(by omega) := ⟨_, rfl⟩
      have hcell : ∀ j, j < 4 → wr.cell? ⟨b, o + k * 4 + j, none⟩ = r.cells[j]? := fun j hj => by
        rw [hU.cell hbb hbn, Nat.add_assoc]
        have h1 := rows_get rs k (by omega) j hj
        rw [← hx] at h1
        obtain ⟨u, hu⟩ : ∃ u, r.cells[j]? = some u := ⟨r.cells[j]'(by rw [R4.cells_len]; omega), by simp⟩
        rw [hu]
        exact hrr (k * 4 + j) u (h1.trans hu)
      have d0 := hcell 0 (by omega)
      have d1 := hcell 1 (by omega)
      have d2 := hcell 2 (by omega)
      have d3 := hcell 3 (by omega)
      have HX := Lib.hid hx
      clear hx hcell
      obtain ⟨ra, rb, rc, rd⟩ := r
      simp only [R4.cells, Nat.add_zero, List.getElem?_cons_zero, List.getElem?_cons_succ] at d0 d1 d2 d3
      have hB := hU.at hcB hBn
      have e0 : wr.cell? ⟨w.heap.size, 0, none⟩ = some (.iface 138 (.pointer (some ⟨p, 0, none⟩))) := by simp [World.cell?, hB]
      have e1 : wr.cell? ⟨w.heap.size, 1, none⟩ = some (.func (Fn.func 44) #[] #[]) := by simp [World.cell?, hB]
      have hBw := lt_of_block hB
      go_wp2
      have n0 := World.cell?_alloc_at (w := wr) #[Value.int .u64 ra, .int .u64 rb, .int .u64 rc, .int .u64 rd] 67 wr.heap.size 0 rfl
      have n1 := World.cell?_alloc_at (w := wr) #[Value.int .u64 ra, .int .u64 rb, .int .u64 rc, .int .u64 rd] 67 wr.heap.size 1 rfl
      have n2 := World.cell?_alloc_at (w := wr) #[Value.int .u64 ra, .int .u64 rb, .int .u64 rc, .int .u64 rd] 67 wr.heap.size 2 rfl
      have n3 := World.cell?_alloc_at (w := wr) #[Value.int .u64 ra, .int .u64 rb, .int .u64 rc, .int .u64 rd] 67 wr.heap.size 3 rfl
      have hUn := (Upd.refl [] wr).alloc (Obj.cells #[Value.int .u64 ra, .int .u64 rb, .int .u64 rc, .int .u64 rd] 67)
      generalize wr.alloc (Obj.cells #[Value.int .u64 ra, .int .u64 rb, .int .u64 rc, .int .u64 rd] 67) = W at *
      have g0 := hUn.cell1 e0 (by simp)
      have g1 := hUn.cell1 e1 (by simp)
      simp only [List.getElem?_toArray, List.getElem?_cons_zero, List.getElem?_cons_succ] at n0 n1 n2 n3
      have hHW := hH.kept hUn (by simp) (by simp)
      have hmeth := mapp_i128 p
      refine wp_region_split (S := Upd [] W) [(true, 0), (true, 1), (true, 2), (true, 3), (true, 4), (true, 6), (true, 7)] [5] [8] (by kernel_rfl) (by kernel_rfl) (fun _ _ d _ _ h => by cases d <;> exact h) ((Upd.refl _ _).drew) ?_
      simp only [readsAt, opersAt, Option.map_some, List.filterMap_cons, List.filterMap_nil, List.getElem?_toArray, List.getElem?_cons_succ, List.getElem?_cons_zero]
      iterate 7 (refine ⟨_, Or.inl ⟨by rfl, fun w' hS => by first | (have q0 := Upd.cell1 hS g0 (by simp); have q1 := Upd.cell1 hS g1 (by simp); have q2 := Upd.cell1 hS n0 (by simp); have q3 := Upd.cell1 hS n1 (by simp); have q4 := Upd.cell1 hS n2 (by simp); have q5 := Upd.cell1 hS n3 (by simp); first | (go_simp; done) | (go_simp; with_reducible rfl)) | (go_simp; done) | (go_simp; with_reducible rfl)⟩, ?_⟩; simp only [Act.put, List.setIfInBounds_toArray, List.set_cons_zero, List.set_cons_succ])
      intro L0 hL0
      rw [if_pos (by rfl)]
      go_simp; refine (vin_i128 ⟨ra, rb, rc, rd⟩ _).mono ?_; rintro e w1 ⟨rfl, hu1⟩
      refine hL0 _ _ ⟨hu1.ofDrew, ?_⟩
      clear hL0 L0
      try simp only [preThen]
      change wpList _ _ _ [_] _ _
      have hH1 := hHW.kept hu1.ofDrew (by simp) (by simp)
      have hUw := (hUn.trans hu1.ofDrew (fun _ h => .inl h))
      go_wp2_with (go_at_call 246; (with_reducible refine (vapp_i128 p _ _ _ _ _ _ hH1 (by omega)).mono ?_); rintro e w2 ⟨rfl, ao2, c2, hH2, hU2, hI2⟩)
      have hUx : Upd (p :: bk ao) W0 w2 := (hU.trans (hUw.mono (by simp) : Upd (p :: bk ao) wr w1) (fun _ h => .inl h)).trans hU2 (fun y hy => by
        rcases List.mem_cons.1 hy with h | h
        · exact .inl (by rw [h]; exact List.mem_cons_self)
        · rcases hI y h with h' | h'
          · exact .inl (List.mem_cons_of_mem _ h')
          · exact .inr h')
      have hIx : In (bk ao) W0.heap.size ao2 := hI.step hI2 (Nat.le_trans hU.size hUw.size)
      have hHx : Hold w2 p 140 142 2 ao2 (m + (k + 1)) c2 (xs ++ (rs.take (k + 1)).flatMap cells_i128) := by
        rw [flatMap_take_succ _ _ _ (by omega), ← HX.out, ← List.append_assoc]
        exact hH2
      clear hH2 hU2 hI2 hH1 hHW
      go_roundw
      case rel => exact ⟨k + 1, ao2, c2, by omega, by go_num, hHx, hUx, hIx⟩
      case measure => simp [intOf]; omega
    · have hk0 : n ≤ k := by omega
      obtain rfl : k = n := by omega
      go_wp2
      go_end0
      refine ⟨rfl, ao', c', ?_, (hU0.mono (by simp)).trans hU (fun _ h => .inl h), hI.le hU0.size⟩
      rw [List.take_of_length_le (by omega)] at hH
      exact hH
set_option maxRecDepth 100000 in
set_option maxHeartbeats 1000000 in
theorem at_i128 (p g n c : Nat) (rs : List R4) (i : Nat) (hi : i < rs.length) (w : World) (hrs : ∀ r ∈ rs, Ok4 r) (h : Hold w p 140 142 2 (some ⟨g, 0, none⟩) n c (rs.flatMap cells_i128)) (hl : rs.length = n) :
    Calls Tryz.prog 260 #[V_i128 p, .int .i64 i] w fun e w' => e = .returned (kept_i128 rs[i]).agg ∧ Upd [] w w' := by
  obtain ⟨r, hx⟩ : ∃ r, r = rs[i] := ⟨_, rfl⟩
  have hr : Ok4 r := hrs r (by rw [hx]; exact List.getElem_mem _)
  have hpc := flat_piece (m := 2) (h.own.view 0 _ (fun j v hj => by rw [Nat.zero_add]; exact hj)) (fun _ => by first | rfl | exact lowV_len _ _ _) i hi
  rw [← hx] at hpc ⊢
  rw [Nat.mul_comm] at hpc
  have hgl : g < w.heap.size := h.own.lt g (by simp)
  clear hx
  go_enter Tryz.func260, Tryz.ntmps260
  simp only [V_i128]
  go_wp2
  obtain ⟨k1, u1, s1⟩ := alloc_facts w (Obj.cells #[.iface 138 (.pointer (some ⟨p, 0, none⟩)), .func (Fn.func 44) #[] #[], .func (Fn.func 46) #[] #[]] 151)
  obtain ⟨k2, u2, s2⟩ := alloc_facts (w.alloc (Obj.cells #[.iface 138 (.pointer (some ⟨p, 0, none⟩)), .func (Fn.func 44) #[] #[], .func (Fn.func 46) #[] #[]] 151)) (Obj.cells #[.int .u64 0, .int .u64 0, .int .u64 0, .int .u64 0] 67)
  generalize (w.alloc (Obj.cells #[.iface 138 (.pointer (some ⟨p, 0, none⟩)), .func (Fn.func 44) #[] #[], .func (Fn.func 46) #[] #[]] 151)).alloc (Obj.cells #[.int .u64 0, .int .u64 0, .int .u64 0, .int .u64 0] 67) = W at *
  rw [s1] at k2 s2
  have u12 := u1.trans u2 (fun _ h => .inl h)
  have hh := h.kept u12 (by simp) (by simp)
  have kk := u2.at k1 (by simp)
  have q0 : W.cell? ⟨w.heap.size, 0, none⟩ = some (.iface 138 (.pointer (some ⟨p, 0, none⟩))) := by simp [World.cell?, kk]
  have q2 : W.cell? ⟨w.heap.size, 2, none⟩ = some (.func (Fn.func 46) #[] #[]) := by simp [World.cell?, kk]
  clear k1 u1 kk u2
  have hrow := (Upd.refl [] W).drew.range (u12.range hpc hgl (by simp)) (Nat.lt_of_lt_of_le hgl u12.size) (by simp)
  have hmr := mrow_i128 p W.drew _ hh.cell
  refine wp_region_split (S := Upd [] W) [(true, 0), (true, 1), (true, 2), (true, 3), (true, 4)] [5] [6, 7] (by kernel_rfl) (by kernel_rfl) (fun _ _ d _ _ h => by cases d <;> exact h) ((Upd.refl _ _).drew) ?_
  simp only [readsAt, opersAt, Option.map_some, List.filterMap_cons, List.filterMap_nil, List.getElem?_toArray, List.getElem?_cons_succ, List.getElem?_cons_zero]
  iterate 5 (refine ⟨_, Or.inl ⟨by rfl, fun w' hS => by first | (have e0 := Upd.cell1 hS q0 (by simp); have e1 := Upd.cell1 hS q2 (by simp); first | (go_simp; done) | (go_simp; with_reducible rfl)) | (go_simp; done) | (go_simp; with_reducible rfl)⟩, ?_⟩; simp only [Act.put, List.setIfInBounds_toArray, List.set_cons_zero, List.set_cons_succ])
  intro L0 hL0
  rw [if_pos (by rfl)]
  go_simp; refine (vrow_i128 g n c i r _ hrow (Nat.lt_of_lt_of_le hgl u12.size) (by omega)).mono ?_; rintro e w1 ⟨rfl, hu1⟩
  refine hL0 _ _ ⟨hu1.ofDrew, ?_⟩
  clear hL0 L0
  try simp only [preThen]
  change wpList _ _ _ [_, _] _ _
  have m1 := hu1.ofDrew.at k2 (by simp)
  go_wp2_with (first
    | (go_at_call 46; (refine (vout_i128 r hr _).mono ?_); rintro e w2 ⟨rfl, hu2⟩; have m2 := hu2.at m1 (by simp))
    | ((with_reducible show wpList _ _ _ _ _ _); refine wpList_store_blk rfl 67 (.tmp 4) (.tmp 11) rfl (b := w.heap.size + 1) rfl m2 (cs := (kept_i128 r).cells) rfl rfl (by kernel_rfl) (by simp [R4.cells, Value.oneCell']) ?_; intro w4 hb4 hu4; simp only [Act.put]))
  refine bodyPost_ret (results_cell1 Tryz.results260 (b := w.heap.size + 1) rfl (run_loadVar_mid w4 (w.heap.size + 1) 0 67 (kept_i128 r).cells _ (rangeAt_blk hb4) Tryz.underlying67 rfl (by kernel_rfl))) rfl ⟨rfl, ?_⟩
  exact ((u12.trans hu1.ofDrew (fun _ h => .inl h)).trans hu2 (fun _ h => .inl h)).trans hu4 (fun y hy => by simp at hy; exact .inr (by omega))
theorem mapp_i256 (p : Nat) (w : World) : (method 625 152 (.pointer (some ⟨p, 0, none⟩)) "Append").run Tryz.prog w = .ok (261, .pointer (some ⟨p, 0, none⟩)) w := by kernel_rfl
theorem mrow1_i256 (k p : Nat) (w : World) : (method (k + 1) 152 (.pointer (some ⟨p, 0, none⟩)) "Row").run Tryz.prog w = (do let v ← receiverAt 152 (.val (.pointer (some ⟨p, 0, none⟩))) false (some "Row"); pure (265, v) : Sem (FuncId × Value)).run Tryz.prog w := by kernel_rfl
theorem mrow2_i256 (p : Nat) (w : World) : (receiverAt 152 (.val (.pointer (some ⟨p, 0, none⟩))) false (some "Row")).run Tryz.prog w = (loadVar 154 ⟨p, 0, none⟩).run Tryz.prog w := by kernel_rfl
theorem load_i256 (p : Nat) (w : World) (v : Value) (h : w.cell? ⟨p, 0, none⟩ = some v) : (loadVar 154 ⟨p, 0, none⟩).run Tryz.prog w = .ok v w := by go_simp
theorem mrow_i256 (p : Nat) (w : World) (v : Value) (h : w.cell? ⟨p, 0, none⟩ = some v) : (method 625 152 (.pointer (some ⟨p, 0, none⟩)) "Row").run Tryz.prog w = .ok (265, v) w := by
  rw [show 625 = (625 - 1) + 1 from rfl, mrow1_i256]
  simp only [Sem.run_bind, mrow2_i256, load_i256 p w v h, Result.andThen_ok, Sem.run_pure]
set_option maxRecDepth 100000 in
set_option maxHeartbeats 1000000 in
theorem add_i256 (p : Nat) (ar : Option Addr) (n c : Nat) (rs : List R4) (ao : Option Addr) (m cp : Nat) (xs : List Value) (w : World) (hr : View w 4 ar n (rs.flatMap R4.cells)) (hc : Hold w p 154 156 4 ao m cp xs)
    (hap : 0 < n → Apart ar p ao) (hn : n ≤ 1000) (hm : m ≤ 100000) :
    Calls Tryz.prog 271 #[V_i256 p, .slice ar n c] w fun e w' => e = .returned (.tuple #[]) ∧ Grew w w' p 154 156 4 ao (m + n) (xs ++ rs.flatMap cells_i256) := by
  have hrl : rs.length = n := by have := hr.len; rw [flatMap_len _ 4 R4.cells_len] at this; omega
  have hpw := hc.lt
  go_enter Tryz.func271, Tryz.ntmps271
  simp only [V_i256]
  go_wp2
  have hcB : (w.alloc (Obj.cells #[.iface 152 (.pointer (some ⟨p, 0, none⟩)), .func (Fn.func 48) #[] #[], .func (Fn.func 50) #[] #[]] 162)).heap[w.heap.size]? = some (Obj.cells #[.iface 152 (.pointer (some ⟨p, 0, none⟩)), .func (Fn.func 48) #[] #[], .func (Fn.func 50) #[] #[]] 162) := heap_alloc_new _ _
  have hU0 := (Upd.refl [] w).alloc (Obj.cells #[.iface 152 (.pointer (some ⟨p, 0, none⟩)), .func (Fn.func 48) #[] #[], .func (Fn.func 50) #[] #[]] 162)
  have hBn : w.heap.size ∉ p :: bk ao := fun h => by
    rcases List.mem_cons.1 h with h | h
    · omega
    · have := hc.bk_lt _ h; omega
  have hBl := lt_of_block hcB
  generalize w.alloc (Obj.cells #[.iface 152 (.pointer (some ⟨p, 0, none⟩)), .func (Fn.func 48) #[] #[], .func (Fn.func 50) #[] #[]] 162) = W0 at *
  have hc0 := hc.kept hU0 (by simp) (by simp)
  have hr0 := hr.upd hU0 (by simp)
  go_loopw [8] (fun i wr => ∃ (k : Nat) (ao' : Option Addr) (c' : Nat), k ≤ n ∧ i = .int .i64 k ∧ Hold wr p 154 156 4 ao' (m + k) c' (xs ++ (rs.take k).flatMap cells_i256) ∧ Upd (p :: bk ao) W0 wr ∧ In (bk ao) W0.heap.size ao')
    (fun i _ => n - (intOf i).toNat)
  case atStart => exact ⟨0, ao, cp, Nat.zero_le _, rfl, by simpa using hc0, Upd.refl _ _, In.self (fun _ h => h)⟩
  case round =>
    obtain ⟨k, ao', c', hk, rfl, hH, hU, hI⟩ := hrel
    by_cases hlt : k < n
    · have hk0 : ((k : Int) < n) := by omega
      obtain ⟨b, o, rfl, hrr, hbb⟩ := hr0.at_ (by omega)
      have hbn : b ∉ p :: bk ao := (hap (by omega)).not b (by simp)
      obtain ⟨r, hx⟩ : ∃ r, r = rs[k]'(by omega) := ⟨_, rfl⟩
      have hcell : ∀ j, j < 4 → wr.cell? ⟨b, o + k * 4 + j, none⟩ = r.cells[j]? := fun j hj => by
        rw [hU.cell hbb hbn, Nat.add_assoc]
        have h1 := rows_get rs k (by omega) j hj
        rw [← hx] at h1
        obtain ⟨u, hu⟩ : ∃ u, r.cells[j]? = some u := ⟨r.cells[j]'(by rw [R4.cells_len]; omega), by simp⟩
        rw [hu]
        exact hrr (k * 4 + j) u (h1.trans hu)
      have d0 := hcell 0 (by omega)
      have d1 := hcell 1 (by omega)
      have d2 := hcell 2 (by omega)
      have d3 := hcell 3 (by omega)
      have HX := Lib.hid hx
      clear hx hcell
      obtain ⟨ra, rb, rc, rd⟩ := r
      simp only [R4.cells, Nat.add_zero, List.getElem?_cons_zero, List.getElem?_cons_succ] at d0 d1 d2 d3
      have hB := hU.at hcB hBn
      have e0 : wr.cell? ⟨w.heap.size, 0, none⟩ = some (.iface 152 (.pointer (some ⟨p, 0, none⟩))) := by simp [World.cell?, hB]
      have e1 : wr.cell? ⟨w.heap.size, 1, none⟩ = some (.func (Fn.func 48) #[] #[]) := by simp [World.cell?, hB]
      have hBw := lt_of_block hB
      go_wp2
      have n0 := World.cell?_alloc_at (w := wr) #[Value.int .u64 ra, .int .u64 rb, .int .u64 rc, .int .u64 rd] 67 wr.heap.size 0 rfl
      have n1 := World.cell?_alloc_at (w := wr) #[Value.int .u64 ra, .int .u64 rb, .int .u64 rc, .int .u64 rd] 67 wr.heap.size 1 rfl
      have n2 := World.cell?_alloc_at (w := wr) #[Value.int .u64 ra, .int .u64 rb, .int .u64 rc, .int .u64 rd] 67 wr.heap.size 2 rfl
      have n3 := World.cell?_alloc_at (w := wr) #[Value.int .u64 ra, .int .u64 rb, .int .u64 rc, .int .u64 rd] 67 wr.heap.size 3 rfl
      have hUn := (Upd.refl [] wr).alloc (Obj.cells #[Value.int .u64 ra, .int .u64 rb, .int .u64 rc, .int .u64 rd] 67)
      generalize wr.alloc (Obj.cells #[Value.int .u64 ra, .int .u64 rb, .int .u64 rc, .int .u64 rd] 67) = W at *
      have g0 := hUn.cell1 e0 (by simp)
      have g1 := hUn.cell1 e1 (by simp)
      simp only [List.getElem?_toArray, List.getElem?_cons_zero, List.getElem?_cons_succ] at n0 n1 n2 n3
      have hHW := hH.kept hUn (by simp) (by simp)
      have hmeth := mapp_i256 p
      refine wp_region_split (S := Upd [] W) [(true, 0), (true, 1), (true, 2), (true, 3), (true, 4), (true, 6), (true, 7)] [5] [8] (by kernel_rfl) (by kernel_rfl) (fun _ _ d _ _ h => by cases d <;> exact h) ((Upd.refl _ _).drew) ?_
      simp only [readsAt, opersAt, Option.map_some, List.filterMap_cons, List.filterMap_nil, List.getElem?_toArray, List.getElem?_cons_succ, List.getElem?_cons_zero]
      iterate 7 (refine ⟨_, Or.inl ⟨by rfl, fun w' hS => by first | (have q0 := Upd.cell1 hS g0 (by simp); have q1 := Upd.cell1 hS g1 (by simp); have q2 := Upd.cell1 hS n0 (by simp); have q3 := Upd.cell1 hS n1 (by simp); have q4 := Upd.cell1 hS n2 (by simp); have q5 := Upd.cell1 hS n3 (by simp); first | (go_simp; done) | (go_simp; with_reducible rfl)) | (go_simp; done) | (go_simp; with_reducible rfl)⟩, ?_⟩; simp only [Act.put, List.setIfInBounds_toArray, List.set_cons_zero, List.set_cons_succ])
      intro L0 hL0
      rw [if_pos (by rfl)]
      go_simp; refine (vin_i256 ⟨ra, rb, rc, rd⟩ _).mono ?_; rintro e w1 ⟨rfl, hu1⟩
      refine hL0 _ _ ⟨hu1.ofDrew, ?_⟩
      clear hL0 L0
      try simp only [preThen]
      change wpList _ _ _ [_] _ _
      have hH1 := hHW.kept hu1.ofDrew (by simp) (by simp)
      have hUw := (hUn.trans hu1.ofDrew (fun _ h => .inl h))
      go_wp2_with (go_at_call 261; (with_reducible refine (vapp_i256 p _ _ _ _ _ _ hH1 (by omega)).mono ?_); rintro e w2 ⟨rfl, ao2, c2, hH2, hU2, hI2⟩)
      have hUx : Upd (p :: bk ao) W0 w2 := (hU.trans (hUw.mono (by simp) : Upd (p :: bk ao) wr w1) (fun _ h => .inl h)).trans hU2 (fun y hy => by
        rcases List.mem_cons.1 hy with h | h
        · exact .inl (by rw [h]; exact List.mem_cons_self)
        · rcases hI y h with h' | h'
          · exact .inl (List.mem_cons_of_mem _ h')
          · exact .inr h')
      have hIx : In (bk ao) W0.heap.size ao2 := hI.step hI2 (Nat.le_trans hU.size hUw.size)
      have hHx : Hold w2 p 154 156 4 ao2 (m + (k + 1)) c2 (xs ++ (rs.take (k + 1)).flatMap cells_i256) := by
        rw [flatMap_take_succ _ _ _ (by omega), ← HX.out, ← List.append_assoc]
        exact hH2
      clear hH2 hU2 hI2 hH1 hHW
      go_roundw
      case rel => exact ⟨k + 1, ao2, c2, by omega, by go_num, hHx, hUx, hIx⟩
      case measure => simp [intOf]; omega
    · have hk0 : n ≤ k := by omega
      obtain rfl : k = n := by omega
      go_wp2
      go_end0
      refine ⟨rfl, ao', c', ?_, (hU0.mono (by simp)).trans hU (fun _ h => .inl h), hI.le hU0.size⟩
      rw [List.take_of_length_le (by omega)] at hH
      exact hH
set_option maxRecDepth 100000 in
set_option maxHeartbeats 1000000 in
theorem at_i256 (p g n c : Nat) (rs : List R4) (i : Nat) (hi : i < rs.length) (w : World) (hrs : ∀ r ∈ rs, Ok4 r) (h : Hold w p 154 156 4 (some ⟨g, 0, none⟩) n c (rs.flatMap cells_i256)) (hl : rs.length = n) :
    Calls Tryz.prog 273 #[V_i256 p, .int .i64 i] w fun e w' => e = .returned (kept_i256 rs[i]).agg ∧ Upd [] w w' := by
  obtain ⟨r, hx⟩ : ∃ r, r = rs[i] := ⟨_, rfl⟩
  have hr : Ok4 r := hrs r (by rw [hx]; exact List.getElem_mem _)
  have hpc := flat_piece (m := 4) (h.own.view 0 _ (fun j v hj => by rw [Nat.zero_add]; exact hj)) (fun _ => by first | rfl | exact lowV_len _ _ _) i hi
  rw [← hx] at hpc ⊢
  rw [Nat.mul_comm] at hpc
  have hgl : g < w.heap.size := h.own.lt g (by simp)
  clear hx
  go_enter Tryz.func273, Tryz.ntmps273
  simp only [V_i256]
  go_wp2
  obtain ⟨k1, u1, s1⟩ := alloc_facts w (Obj.cells #[.iface 152 (.pointer (some ⟨p, 0, none⟩)), .func (Fn.func 48) #[] #[], .func (Fn.func 50) #[] #[]] 162)
  obtain ⟨k2, u2, s2⟩ := alloc_facts (w.alloc (Obj.cells #[.iface 152 (.pointer (some ⟨p, 0, none⟩)), .func (Fn.func 48) #[] #[], .func (Fn.func 50) #[] #[]] 162)) (Obj.cells #[.int .u64 0, .int .u64 0, .int .u64 0, .int .u64 0] 67)
  generalize (w.alloc (Obj.cells #[.iface 152 (.pointer (some ⟨p, 0, none⟩)), .func (Fn.func 48) #[] #[], .func (Fn.func 50) #[] #[]] 162)).alloc (Obj.cells #[.int .u64 0, .int .u64 0, .int .u64 0, .int .u64 0] 67) = W at *
  rw [s1] at k2 s2
  have u12 := u1.trans u2 (fun _ h => .inl h)
  have hh := h.kept u12 (by simp) (by simp)
  have kk := u2.at k1 (by simp)
  have q0 : W.cell? ⟨w.heap.size, 0, none⟩ = some (.iface 152 (.pointer (some ⟨p, 0, none⟩))) := by simp [World.cell?, kk]
  have q2 : W.cell? ⟨w.heap.size, 2, none⟩ = some (.func (Fn.func 50) #[] #[]) := by simp [World.cell?, kk]
  clear k1 u1 kk u2
  have hrow := (Upd.refl [] W).drew.range (u12.range hpc hgl (by simp)) (Nat.lt_of_lt_of_le hgl u12.size) (by simp)
  have hmr := mrow_i256 p W.drew _ hh.cell
  refine wp_region_split (S := Upd [] W) [(true, 0), (true, 1), (true, 2), (true, 3), (true, 4)] [5] [6, 7] (by kernel_rfl) (by kernel_rfl) (fun _ _ d _ _ h => by cases d <;> exact h) ((Upd.refl _ _).drew) ?_
  simp only [readsAt, opersAt, Option.map_some, List.filterMap_cons, List.filterMap_nil, List.getElem?_toArray, List.getElem?_cons_succ, List.getElem?_cons_zero]
  iterate 5 (refine ⟨_, Or.inl ⟨by rfl, fun w' hS => by first | (have e0 := Upd.cell1 hS q0 (by simp); have e1 := Upd.cell1 hS q2 (by simp); first | (go_simp; done) | (go_simp; with_reducible rfl)) | (go_simp; done) | (go_simp; with_reducible rfl)⟩, ?_⟩; simp only [Act.put, List.setIfInBounds_toArray, List.set_cons_zero, List.set_cons_succ])
  intro L0 hL0
  rw [if_pos (by rfl)]
  go_simp; refine (vrow_i256 g n c i r _ hrow (Nat.lt_of_lt_of_le hgl u12.size) (by omega)).mono ?_; rintro e w1 ⟨rfl, hu1⟩
  refine hL0 _ _ ⟨hu1.ofDrew, ?_⟩
  clear hL0 L0
  try simp only [preThen]
  change wpList _ _ _ [_, _] _ _
  have m1 := hu1.ofDrew.at k2 (by simp)
  go_wp2_with (first
    | (go_at_call 50; (refine (vout_i256 r hr _).mono ?_); rintro e w2 ⟨rfl, hu2⟩; have m2 := hu2.at m1 (by simp))
    | ((with_reducible show wpList _ _ _ _ _ _); refine wpList_store_blk rfl 67 (.tmp 4) (.tmp 11) rfl (b := w.heap.size + 1) rfl m2 (cs := (kept_i256 r).cells) rfl rfl (by kernel_rfl) (by simp [R4.cells, Value.oneCell']) ?_; intro w4 hb4 hu4; simp only [Act.put]))
  refine bodyPost_ret (results_cell1 Tryz.results273 (b := w.heap.size + 1) rfl (run_loadVar_mid w4 (w.heap.size + 1) 0 67 (kept_i256 r).cells _ (rangeAt_blk hb4) Tryz.underlying67 rfl (by kernel_rfl))) rfl ⟨rfl, ?_⟩
  exact ((u12.trans hu1.ofDrew (fun _ h => .inl h)).trans hu2 (fun _ h => .inl h)).trans hu4 (fun y hy => by simp at hy; exact .inr (by omega))
end Go.Proofs.YtfbohkbpgfnceaaGreatDoor
