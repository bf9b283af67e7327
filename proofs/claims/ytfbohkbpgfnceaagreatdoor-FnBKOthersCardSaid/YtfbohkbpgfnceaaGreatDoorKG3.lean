/- numbersOf.add and .at of six kinds. -/
import Derived.Test.YtfbohkbpgfnceaaGreatDoorKF
namespace Go.Proofs.YtfbohkbpgfnceaaGreatDoor
set_option linter.unusedVariables false
set_option linter.unusedSimpArgs false
open Go Go.RowKit
theorem mapp_f32 (p : Nat) (w : World) : (method 625 251 (.pointer (some ⟨p, 0, none⟩)) "Append").run Tryz.prog w = .ok (341, .pointer (some ⟨p, 0, none⟩)) w := by kernel_rfl
theorem mrow1_f32 (k p : Nat) (w : World) : (method (k + 1) 251 (.pointer (some ⟨p, 0, none⟩)) "Row").run Tryz.prog w = (do let v ← receiverAt 251 (.val (.pointer (some ⟨p, 0, none⟩))) false (some "Row"); pure (345, v) : Sem (FuncId × Value)).run Tryz.prog w := by kernel_rfl
theorem mrow2_f32 (p : Nat) (w : World) : (receiverAt 251 (.val (.pointer (some ⟨p, 0, none⟩))) false (some "Row")).run Tryz.prog w = (loadVar 253 ⟨p, 0, none⟩).run Tryz.prog w := by kernel_rfl
theorem load_f32 (p : Nat) (w : World) (v : Value) (h : w.cell? ⟨p, 0, none⟩ = some v) : (loadVar 253 ⟨p, 0, none⟩).run Tryz.prog w = .ok v w := by go_simp
theorem mrow_f32 (p : Nat) (w : World) (v : Value) (h : w.cell? ⟨p, 0, none⟩ = some v) : (method 625 251 (.pointer (some ⟨p, 0, none⟩)) "Row").run Tryz.prog w = .ok (345, v) w := by
  rw [show 625 = (625 - 1) + 1 from rfl, mrow1_f32]
  simp only [Sem.run_bind, mrow2_f32, load_f32 p w v h, Result.andThen_ok, Sem.run_pure]
set_option maxRecDepth 100000 in
set_option maxHeartbeats 1000000 in
theorem add_f32 (p : Nat) (ar : Option Addr) (n c : Nat) (rs : List R4) (ao : Option Addr) (m cp : Nat) (xs : List Value) (w : World) (hr : View w 4 ar n (rs.flatMap R4.cells)) (hc : Hold w p 253 349 1 ao m cp xs)
    (hap : 0 < n → Apart ar p ao) (hn : n ≤ 1000) (hm : m ≤ 100000) :
    Calls Tryz.prog 349 #[V_f32 p, .slice ar n c] w fun e w' => e = .returned (.tuple #[]) ∧ Grew w w' p 253 349 1 ao (m + n) (xs ++ rs.flatMap cells_f32) := by
  have hrl : rs.length = n := by have := hr.len; rw [flatMap_len _ 4 R4.cells_len] at this; omega
  have hpw := hc.lt
  go_enter Tryz.func349, Tryz.ntmps349
  simp only [V_f32]
  go_wp2
  have hcB : (w.alloc (Obj.cells #[.iface 251 (.pointer (some ⟨p, 0, none⟩)), .func (Fn.func 79) #[] #[], .func (Fn.func 80) #[] #[]] 259)).heap[w.heap.size]? = some (Obj.cells #[.iface 251 (.pointer (some ⟨p, 0, none⟩)), .func (Fn.func 79) #[] #[], .func (Fn.func 80) #[] #[]] 259) := heap_alloc_new _ _
  have hU0 := (Upd.refl [] w).alloc (Obj.cells #[.iface 251 (.pointer (some ⟨p, 0, none⟩)), .func (Fn.func 79) #[] #[], .func (Fn.func 80) #[] #[]] 259)
  have hBn : w.heap.size ∉ p :: bk ao := fun h => by
    rcases List.mem_cons.1 h with h | h
    · omega
    · have := hc.bk_lt _ h; omega
  have hBl := lt_of_block hcB
  generalize w.alloc (Obj.cells #[.iface 251 (.pointer (some ⟨p, 0, none⟩)), .func (Fn.func 79) #[] #[], .func (Fn.func 80) #[] #[]] 259) = W0 at *
  have hc0 := hc.kept hU0 (by simp) (by simp)
  have hr0 := hr.upd hU0 (by simp)
  go_loopw [8] (fun i wr => ∃ (k : Nat) (ao' : Option Addr) (c' : Nat), k ≤ n ∧ i = .int .i64 k ∧ Hold wr p 253 349 1 ao' (m + k) c' (xs ++ (rs.take k).flatMap cells_f32) ∧ Upd (p :: bk ao) W0 wr ∧ In (bk ao) W0.heap.size ao')
    (fun i _ => n - (intOf i).toNat)
  case atStart => exact ⟨0, ao, cp, Nat.zero_le _, rfl, by simpa using hc0, Upd.refl _ _, In.self (fun _ h => h)⟩
  case round =>
    obtain ⟨k, ao', c', hk, rfl, hH, hU, hI⟩ := hrel
    by_cases hlt : k < n
    · have hk0 : ((k : Int) < n) := by omega
      obtain ⟨b, o, rfl, hrr, hbb⟩ := hr0.at_ (by omega)
      have hbn : b ∉ p :: bk ao := (hap (by omega)).not b (by simp)
      obtain ⟨r, hx⟩ : ∃ r, r = rs[k]'(by omega) := ⟨_, rfl⟩
      have hcell : ∀ j, j < 4 → wr.cell? ⟨b, o + k * 4 + j, none⟩ = r.cells[j]? := fun j hj => by
        rw [hU.cell hbb hbn, Nat.add_assoc]
        have h1 := rows_get rs k (by omega) j hj
        rw [← hx] at h1
        obtain ⟨u, hu⟩ : ∃ u, r.cells[j]? = some u := ⟨r.cells[j]'(by rw [R4.cells_len]; omega), by simp⟩
        rw [hu]
        exact hrr (k * 4 + j) u (h1.trans hu)
      have d0 := hcell 0 (by omega)
      have d1 := hcell 1 (by omega)
      have d2 := hcell 2 (by omega)
      have d3 := hcell 3 (by omega)
      have HX := Lib.hid hx
      clear hx hcell
      obtain ⟨ra, rb, rc, rd⟩ := r
      simp only [R4.cells, Nat.add_zero, List.getElem?_cons_zero, List.getElem?_cons_succ] at d0 d1 d2 d3
      have hB := hU.at hcB hBn
      have e0 : wr.cell? ⟨w.heap.size, 0, none⟩ = some (.iface 251 (.pointer (some ⟨p, 0, none⟩))) := by simp [World.cell?, hB]
      have e1 : wr.cell? ⟨w.heap.size, 1, none⟩ = some (.func (Fn.func 79) #[] #[]) := by simp [World.cell?, hB]
      have hBw := lt_of_block hB
      go_wp2
      have n0 := World.cell?_alloc_at (w := wr) #[Value.int .u64 ra, .int .u64 rb, .int .u64 rc, .int .u64 rd] 67 wr.heap.size 0 rfl
      have n1 := World.cell?_alloc_at (w := wr) #[Value.int .u64 ra, .int .u64 rb, .int .u64 rc, .int .u64 rd] 67 wr.heap.size 1 rfl
      have n2 := World.cell?_alloc_at (w := wr) #[Value.int .u64 ra, .int .u64 rb, .int .u64 rc, .int .u64 rd] 67 wr.heap.size 2 rfl
      have n3 := World.cell?_alloc_at (w := wr) #[Value.int .u64 ra, .int .u64 rb, .int .u64 rc, .int .u64 rd] 67 wr.heap.size 3 rfl
      have hUn := (Upd.refl [] wr).alloc (Obj.cells #[Value.int .u64 ra, .int .u64 rb, .int .u64 rc, .int .u64 rd] 67)
      generalize wr.alloc (Obj.cells #[Value.int .u64 ra, .int .u64 rb, .int .u64 rc, .int .u64 rd] 67) = W at *
      have g0 := hUn.cell1 e0 (by simp)
      have g1 := hUn.cell1 e1 (by simp)
      simp only [List.getElem?_toArray, List.getElem?_cons_zero, List.getElem?_cons_succ] at n0 n1 n2 n3
      have hHW := hH.kept hUn (by simp) (by simp)
      have hmeth := mapp_f32 p
      refine wp_region_split (S := Upd [] W) [(true, 0), (true, 1), (true, 2), (true, 3), (true, 4), (true, 6), (true, 7)] [5] [8] (by kernel_rfl) (by kernel_rfl) (fun _ _ d _ _ h => by cases d <;> exact h) ((Upd.refl _ _).drew) ?_
      simp only [readsAt, opersAt, Option.map_some, List.filterMap_cons, List.filterMap_nil, List.getElem?_toArray, List.getElem?_cons_succ, List.getElem?_cons_zero]
      iterate 7 (refine ⟨_, Or.inl ⟨by rfl, fun w' hS => by first | (have q0 := Upd.cell1 hS g0 (by simp); have q1 := Upd.cell1 hS g1 (by simp); have q2 := Upd.cell1 hS n0 (by simp); have q3 := Upd.cell1 hS n1 (by simp); have q4 := Upd.cell1 hS n2 (by simp); have q5 := Upd.cell1 hS n3 (by simp); first | (go_simp; done) | (go_simp; with_reducible rfl)) | (go_simp; done) | (go_simp; with_reducible rfl)⟩, ?_⟩; simp only [Act.put, List.setIfInBounds_toArray, List.set_cons_zero, List.set_cons_succ])
      intro L0 hL0
      rw [if_pos (by rfl)]
      go_simp; refine (vin_f32 ⟨ra, rb, rc, rd⟩ _).mono ?_; rintro e w1 ⟨rfl, hu1⟩
      refine hL0 _ _ ⟨hu1.ofDrew, ?_⟩
      clear hL0 L0
      try simp only [preThen]
      change wpList _ _ _ [_] _ _
      have hH1 := hHW.kept hu1.ofDrew (by simp) (by simp)
      have hUw := (hUn.trans hu1.ofDrew (fun _ h => .inl h))
      go_wp2_with (go_at_call 341; (with_reducible refine (vapp_f32 p _ _ _ _ _ _ hH1 (by omega)).mono ?_); rintro e w2 ⟨rfl, ao2, c2, hH2, hU2, hI2⟩)
      have hUx : Upd (p :: bk ao) W0 w2 := (hU.trans (hUw.mono (by simp) : Upd (p :: bk ao) wr w1) (fun _ h => .inl h)).trans hU2 (fun y hy => by
        rcases List.mem_cons.1 hy with h | h
        · exact .inl (by rw [h]; exact List.mem_cons_self)
        · rcases hI y h with h' | h'
          · exact .inl (List.mem_cons_of_mem _ h')
          · exact .inr h')
      have hIx : In (bk ao) W0.heap.size ao2 := hI.step hI2 (Nat.le_trans hU.size hUw.size)
      have hHx : Hold w2 p 253 349 1 ao2 (m + (k + 1)) c2 (xs ++ (rs.take (k + 1)).flatMap cells_f32) := by
        rw [flatMap_take_succ _ _ _ (by omega), ← HX.out, ← List.append_assoc]
        exact hH2
      clear hH2 hU2 hI2 hH1 hHW
      go_roundw
      case rel => exact ⟨k + 1, ao2, c2, by omega, by go_num, hHx, hUx, hIx⟩
      case measure => simp [intOf]; omega
    · have hk0 : n ≤ k := by omega
      obtain rfl : k = n := by omega
      go_wp2
      go_end0
      refine ⟨rfl, ao', c', ?_, (hU0.mono (by simp)).trans hU (fun _ h => .inl h), hI.le hU0.size⟩
      rw [List.take_of_length_le (by omega)] at hH
      exact hH
set_option maxRecDepth 100000 in
set_option maxHeartbeats 1000000 in
theorem at_f32 (p g n c : Nat) (rs : List R4) (i : Nat) (hi : i < rs.length) (w : World) (hrs : ∀ r ∈ rs, Ok4 r) (h : Hold w p 253 349 1 (some ⟨g, 0, none⟩) n c (rs.flatMap cells_f32)) (hl : rs.length = n) :
    Calls Tryz.prog 351 #[V_f32 p, .int .i64 i] w fun e w' => e = .returned (kept_f32 rs[i]).agg ∧ Upd [] w w' := by
  obtain ⟨r, hx⟩ : ∃ r, r = rs[i] := ⟨_, rfl⟩
  have hr : Ok4 r := hrs r (by rw [hx]; exact List.getElem_mem _)
  have hpc := flat_piece (m := 1) (h.own.view 0 _ (fun j v hj => by rw [Nat.zero_add]; exact hj)) (fun _ => by first | rfl | exact lowV_len _ _ _) i hi
  rw [← hx] at hpc ⊢
  rw [Nat.mul_comm] at hpc
  have hgl : g < w.heap.size := h.own.lt g (by simp)
  clear hx
  go_enter Tryz.func351, Tryz.ntmps351
  simp only [V_f32]
  go_wp2
  obtain ⟨k1, u1, s1⟩ := alloc_facts w (Obj.cells #[.iface 251 (.pointer (some ⟨p, 0, none⟩)), .func (Fn.func 79) #[] #[], .func (Fn.func 80) #[] #[]] 259)
  obtain ⟨k2, u2, s2⟩ := alloc_facts (w.alloc (Obj.cells #[.iface 251 (.pointer (some ⟨p, 0, none⟩)), .func (Fn.func 79) #[] #[], .func (Fn.func 80) #[] #[]] 259)) (Obj.cells #[.int .u64 0, .int .u64 0, .int .u64 0, .int .u64 0] 67)
  generalize (w.alloc (Obj.cells #[.iface 251 (.pointer (some ⟨p, 0, none⟩)), .func (Fn.func 79) #[] #[], .func (Fn.func 80) #[] #[]] 259)).alloc (Obj.cells #[.int .u64 0, .int .u64 0, .int .u64 0, .int .u64 0] 67) = W at *
  rw [s1] at k2 s2
  have u12 := u1.trans u2 (fun _ h => .inl h)
  have hh := h.kept u12 (by simp) (by simp)
  have kk := u2.at k1 (by simp)
  have q0 : W.cell? ⟨w.heap.size, 0, none⟩ = some (.iface 251 (.pointer (some ⟨p, 0, none⟩))) := by simp [World.cell?, kk]
  have q2 : W.cell? ⟨w.heap.size, 2, none⟩ = some (.func (Fn.func 80) #[] #[]) := by simp [World.cell?, kk]
  clear k1 u1 kk u2
  have hrow := (Upd.refl [] W).drew.range (u12.range hpc hgl (by simp)) (Nat.lt_of_lt_of_le hgl u12.size) (by simp)
  have hmr := mrow_f32 p W.drew _ hh.cell
  refine wp_region_split (S := Upd [] W) [(true, 0), (true, 1), (true, 2), (true, 3), (true, 4)] [5] [6, 7] (by kernel_rfl) (by kernel_rfl) (fun _ _ d _ _ h => by cases d <;> exact h) ((Upd.refl _ _).drew) ?_
  simp only [readsAt, opersAt, Option.map_some, List.filterMap_cons, List.filterMap_nil, List.getElem?_toArray, List.getElem?_cons_succ, List.getElem?_cons_zero]
  iterate 5 (refine ⟨_, Or.inl ⟨by rfl, fun w' hS => by first | (have e0 := Upd.cell1 hS q0 (by simp); have e1 := Upd.cell1 hS q2 (by simp); first | (go_simp; done) | (go_simp; with_reducible rfl)) | (go_simp; done) | (go_simp; with_reducible rfl)⟩, ?_⟩; simp only [Act.put, List.setIfInBounds_toArray, List.set_cons_zero, List.set_cons_succ])
  intro L0 hL0
  rw [if_pos (by rfl)]
  go_simp; refine (vrow_f32 g n c i r _ hrow (Nat.lt_of_lt_of_le hgl u12.size) (by omega)).mono ?_; rintro e w1 ⟨rfl, hu1⟩
  refine hL0 _ _ ⟨hu1.ofDrew, ?_⟩
  clear hL0 L0
  try simp only [preThen]
  change wpList _ _ _ [_, _] _ _
  have m1 := hu1.ofDrew.at k2 (by simp)
  go_wp2_with (first
    | (go_at_call 80; (refine (vout_f32 r hr _).mono ?_); rintro e w2 ⟨rfl, hu2⟩; have m2 := hu2.at m1 (by simp))
    | ((with_reducible show wpList _ _ _ _ _ _); refine wpList_store_blk rfl 67 (.tmp 4) (.tmp 11) rfl (b := w.heap.size + 1) rfl m2 (cs := (kept_f32 r).cells) rfl rfl (by kernel_rfl) (by simp [R4.cells, Value.oneCell']) ?_; intro w4 hb4 hu4; simp only [Act.put]))
  refine bodyPost_ret (results_cell1 Tryz.results351 (b := w.heap.size + 1) rfl (run_loadVar_mid w4 (w.heap.size + 1) 0 67 (kept_f32 r).cells _ (rangeAt_blk hb4) Tryz.underlying67 rfl (by kernel_rfl))) rfl ⟨rfl, ?_⟩
  exact ((u12.trans hu1.ofDrew (fun _ h => .inl h)).trans hu2 (fun _ h => .inl h)).trans hu4 (fun y hy => by simp at hy; exact .inr (by omega))
theorem mapp_f64 (p : Nat) (w : World) : (method 625 260 (.pointer (some ⟨p, 0, none⟩)) "Append").run Tryz.prog w = .ok (352, .pointer (some ⟨p, 0, none⟩)) w := by kernel_rfl
theorem mrow1_f64 (k p : Nat) (w : World) : (method (k + 1) 260 (.pointer (some ⟨p, 0, none⟩)) "Row").run Tryz.prog w = (do let v ← receiverAt 260 (.val (.pointer (some ⟨p, 0, none⟩))) false (some "Row"); pure (356, v) : Sem (FuncId × Value)).run Tryz.prog w := by kernel_rfl
theorem mrow2_f64 (p : Nat) (w : World) : (receiverAt 260 (.val (.pointer (some ⟨p, 0, none⟩))) false (some "Row")).run Tryz.prog w = (loadVar 262 ⟨p, 0, none⟩).run Tryz.prog w := by kernel_rfl
theorem load_f64 (p : Nat) (w : World) (v : Value) (h : w.cell? ⟨p, 0, none⟩ = some v) : (loadVar 262 ⟨p, 0, none⟩).run Tryz.prog w = .ok v w := by go_simp
theorem mrow_f64 (p : Nat) (w : World) (v : Value) (h : w.cell? ⟨p, 0, none⟩ = some v) : (method 625 260 (.pointer (some ⟨p, 0, none⟩)) "Row").run Tryz.prog w = .ok (356, v) w := by
  rw [show 625 = (625 - 1) + 1 from rfl, mrow1_f64]
  simp only [Sem.run_bind, mrow2_f64, load_f64 p w v h, Result.andThen_ok, Sem.run_pure]
set_option maxRecDepth 100000 in
set_option maxHeartbeats 1000000 in
theorem add_f64 (p : Nat) (ar : Option Addr) (n c : Nat) (rs : List R4) (ao : Option Addr) (m cp : Nat) (xs : List Value) (w : World) (hr : View w 4 ar n (rs.flatMap R4.cells)) (hc : Hold w p 262 263 1 ao m cp xs)
    (hap : 0 < n → Apart ar p ao) (hn : n ≤ 1000) (hm : m ≤ 100000) :
    Calls Tryz.prog 360 #[V_f64 p, .slice ar n c] w fun e w' => e = .returned (.tuple #[]) ∧ Grew w w' p 262 263 1 ao (m + n) (xs ++ rs.flatMap cells_f64) := by
  have hrl : rs.length = n := by have := hr.len; rw [flatMap_len _ 4 R4.cells_len] at this; omega
  have hpw := hc.lt
  go_enter Tryz.func360, Tryz.ntmps360
  simp only [V_f64]
  go_wp2
  have hcB : (w.alloc (Obj.cells #[.iface 260 (.pointer (some ⟨p, 0, none⟩)), .func (Fn.func 81) #[] #[], .func (Fn.func 83) #[] #[]] 271)).heap[w.heap.size]? = some (Obj.cells #[.iface 260 (.pointer (some ⟨p, 0, none⟩)), .func (Fn.func 81) #[] #[], .func (Fn.func 83) #[] #[]] 271) := heap_alloc_new _ _
  have hU0 := (Upd.refl [] w).alloc (Obj.cells #[.iface 260 (.pointer (some ⟨p, 0, none⟩)), .func (Fn.func 81) #[] #[], .func (Fn.func 83) #[] #[]] 271)
  have hBn : w.heap.size ∉ p :: bk ao := fun h => by
    rcases List.mem_cons.1 h with h | h
    · omega
    · have := hc.bk_lt _ h; omega
  have hBl := lt_of_block hcB
  generalize w.alloc (Obj.cells #[.iface 260 (.pointer (some ⟨p, 0, none⟩)), .func (Fn.func 81) #[] #[], .func (Fn.func 83) #[] #[]] 271) = W0 at *
  have hc0 := hc.kept hU0 (by simp) (by simp)
  have hr0 := hr.upd hU0 (by simp)
  go_loopw [8] (fun i wr => ∃ (k : Nat) (ao' : Option Addr) (c' : Nat), k ≤ n ∧ i = .int .i64 k ∧ Hold wr p 262 263 1 ao' (m + k) c' (xs ++ (rs.take k).flatMap cells_f64) ∧ Upd (p :: bk ao) W0 wr ∧ In (bk ao) W0.heap.size ao')
    (fun i _ => n - (intOf i).toNat)
  case atStart => exact ⟨0, ao, cp, Nat.zero_le _, rfl, by simpa using hc0, Upd.refl _ _, In.self (fun _ h => h)⟩
  case round =>
    obtain ⟨k, ao', c', hk, rfl, hH, hU, hI⟩ := hrel
    by_cases hlt : k < n
    · have hk0 : ((k : Int) < n) := by omega
      obtain ⟨b, o, rfl, hrr, hbb⟩ := hr0.at_ (by omega)
      have hbn : b ∉ p :: bk ao := (hap (by omega)).not b (by simp)
      obtain ⟨r, hx⟩ : ∃ r, r = rs[k]'(by omega) := ⟨_, rfl⟩
      have hcell : ∀ j, j < 4 → wr.cell? ⟨b, o + k * 4 + j, none⟩ = r.cells[j]? := fun j hj => by
        rw [hU.cell hbb hbn, Nat.add_assoc]
        have h1 := rows_get rs k (by omega) j hj
        rw [← hx] at h1
        obtain ⟨u, hu⟩ : ∃ u, r.cells[j]? = some u := ⟨r.cells[j]'(by rw [R4.cells_len]; omega), by simp⟩
        rw [hu]
        exact hrr (k * 4 + j) u (h1.trans hu)
      have d0 := hcell 0 (by omega)
      have d1 := hcell 1 (by omega)
      have d2 := hcell 2 (by omega)
      have d3 := hcell 3 (by omega)
      have HX := Lib.hid hx
      clear hx hcell
      obtain ⟨ra, rb, rc, rd⟩ := r
      simp only [R4.cells, Nat.add_zero, List.getElem?_cons_zero, List.getElem?_cons_succ] at d0 d1 d2 d3
      have hB := hU.at hcB hBn
      have e0 : wr.cell? ⟨w.heap.size, 0, none⟩ = some (.iface 260 (.pointer (some ⟨p, 0, none⟩))) := by simp [World.cell?, hB]
      have e1 : wr.cell? ⟨w.heap.size, 1, none⟩ = some (.func (Fn.func 81) #[] #[]) := by simp [World.cell?, hB]
      have hBw := lt_of_block hB
      go_wp2
      have n0 := World.cell?_alloc_at (w := wr) #[Value.int .u64 ra, .int .u64 rb, .int .u64 rc, .int .u64 rd] 67 wr.heap.size 0 rfl
      have n1 := World.cell?_alloc_at (w := wr) #[Value.int .u64 ra, .int .u64 rb, .int .u64 rc, .int .u64 rd] 67 wr.heap.size 1 rfl
      have n2 := World.cell?_alloc_at (w := wr) #[Value.int .u64 ra, .int .u64 rb, .int .u64 rc, .int .u64 rd] 67 wr.heap.size 2 rfl
      have n3 := World.cell?_alloc_at (w := wr) #[Value.int .u64 ra, .int .u64 rb, .int .u64 rc, .int .u64 rd] 67 wr.heap.size 3 rfl
      have hUn := (Upd.refl [] wr).alloc (Obj.cells #[Value.int .u64 ra, .int .u64 rb, .int .u64 rc, .int .u64 rd] 67)
      generalize wr.alloc (Obj.cells #[Value.int .u64 ra, .int .u64 rb, .int .u64 rc, .int .u64 rd] 67) = W at *
      have g0 := hUn.cell1 e0 (by simp)
      have g1 := hUn.cell1 e1 (by simp)
      simp only [List.getElem?_toArray, List.getElem?_cons_zero, List.getElem?_cons_succ] at n0 n1 n2 n3
      have hHW := hH.kept hUn (by simp) (by simp)
      have hmeth := mapp_f64 p
      refine wp_region_split (S := Upd [] W) [(true, 0), (true, 1), (true, 2), (true, 3), (true, 4), (true, 6), (true, 7)] [5] [8] (by kernel_rfl) (by kernel_rfl) (fun _ _ d _ _ h => by cases d <;> exact h) ((Upd.refl _ _).drew) ?_
      simp only [readsAt, opersAt, Option.map_some, List.filterMap_cons, List.filterMap_nil, List.getElem?_toArray, List.getElem?_cons_succ, List.getElem?_cons_zero]
      iterate 7 (refine ⟨_, Or.inl ⟨by rfl, fun w' hS => by first | (have q0 := Upd.cell1 hS g0 (by simp); have q1 := Upd.cell1 hS g1 (by simp); have q2 := Upd.cell1 hS n0 (by simp); have q3 := Upd.cell1 hS n1 (by simp); have q4 := Upd.cell1 hS n2 (by simp); have q5 := Upd.cell1 hS n3 (by simp); first | (go_simp; done) | (go_simp; with_reducible rfl)) | (go_simp; done) | (go_simp; with_reducible rfl)⟩, ?_⟩; simp only [Act.put, List.setIfInBounds_toArray, List.set_cons_zero, List.set_cons_succ])
      intro L0 hL0
      rw [if_pos (by rfl)]
      go_simp; refine (vin_f64 ⟨ra, rb, rc, rd⟩ _).mono ?_; rintro e w1 ⟨rfl, hu1⟩
      refine hL0 _ _ ⟨hu1.ofDrew, ?_⟩
      clear hL0 L0
      try simp only [preThen]
      change wpList _ _ _ [_] _ _
      have hH1 := hHW.kept hu1.ofDrew (by simp) (by simp)
      have hUw := (hUn.trans hu1.ofDrew (fun _ h => .inl h))
      go_wp2_with (go_at_call 352; (with_reducible refine (vapp_f64 p _ _ _ _ _ _ hH1 (by omega)).mono ?_); rintro e w2 ⟨rfl, ao2, c2, hH2, hU2, hI2⟩)
      have hUx : Upd (p :: bk ao) W0 w2 := (hU.trans (hUw.mono (by simp) : Upd (p :: bk ao) wr w1) (fun _ h => .inl h)).trans hU2 (fun y hy => by
        rcases List.mem_cons.1 hy with h | h
        · exact .inl (by rw [h]; exact List.mem_cons_self)
        · rcases hI y h with h' | h'
          · exact .inl (List.mem_cons_of_mem _ h')
          · exact .inr h')
      have hIx : In (bk ao) W0.heap.size ao2 := hI.step hI2 (Nat.le_trans hU.size hUw.size)
      have hHx : Hold w2 p 262 263 1 ao2 (m + (k + 1)) c2 (xs ++ (rs.take (k + 1)).flatMap cells_f64) := by
        rw [flatMap_take_succ _ _ _ (by omega), ← HX.out, ← List.append_assoc]
        exact hH2
      clear hH2 hU2 hI2 hH1 hHW
      go_roundw
      case rel => exact ⟨k + 1, ao2, c2, by omega, by go_num, hHx, hUx, hIx⟩
      case measure => simp [intOf]; omega
    · have hk0 : n ≤ k := by omega
      obtain rfl : k = n := by omega
      go_wp2
      go_end0
      refine ⟨rfl, ao', c', ?_, (hU0.mono (by simp)).trans hU (fun _ h => .inl h), hI.le hU0.size⟩
      rw [List.take_of_length_le (by omega)] at hH
      exact hH
set_option maxRecDepth 100000 in
set_option maxHeartbeats 1000000 in
theorem at_f64 (p g n c : Nat) (rs : List R4) (i : Nat) (hi : i < rs.length) (w : World) (hrs : ∀ r ∈ rs, Ok4 r) (h : Hold w p 262 263 1 (some ⟨g, 0, none⟩) n c (rs.flatMap cells_f64)) (hl : rs.length = n) :
    Calls Tryz.prog 362 #[V_f64 p, .int .i64 i] w fun e w' => e = .returned (kept_f64 rs[i]).agg ∧ Upd [] w w' := by
  obtain ⟨r, hx⟩ : ∃ r, r = rs[i] := ⟨_, rfl⟩
  have hr : Ok4 r := hrs r (by rw [hx]; exact List.getElem_mem _)
  have hpc := flat_piece (m := 1) (h.own.view 0 _ (fun j v hj => by rw [Nat.zero_add]; exact hj)) (fun _ => by first | rfl | exact lowV_len _ _ _) i hi
  rw [← hx] at hpc ⊢
  rw [Nat.mul_comm] at hpc
  have hgl : g < w.heap.size := h.own.lt g (by simp)
  clear hx
  go_enter Tryz.func362, Tryz.ntmps362
  simp only [V_f64]
  go_wp2
  obtain ⟨k1, u1, s1⟩ := alloc_facts w (Obj.cells #[.iface 260 (.pointer (some ⟨p, 0, none⟩)), .func (Fn.func 81) #[] #[], .func (Fn.func 83) #[] #[]] 271)
  obtain ⟨k2, u2, s2⟩ := alloc_facts (w.alloc (Obj.cells #[.iface 260 (.pointer (some ⟨p, 0, none⟩)), .func (Fn.func 81) #[] #[], .func (Fn.func 83) #[] #[]] 271)) (Obj.cells #[.int .u64 0, .int .u64 0, .int .u64 0, .int .u64 0] 67)
  generalize (w.alloc (Obj.cells #[.iface 260 (.pointer (some ⟨p, 0, none⟩)), .func (Fn.func 81) #[] #[], .func (Fn.func 83) #[] #[]] 271)).alloc (Obj.cells #[.int .u64 0, .int .u64 0, .int .u64 0, .int .u64 0] 67) = W at *
  rw [s1] at k2 s2
  have u12 := u1.trans u2 (fun _ h => .inl h)
  have hh := h.kept u12 (by simp) (by simp)
  have kk := u2.at k1 (by simp)
  have q0 : W.cell? ⟨w.heap.size, 0, none⟩ = some (.iface 260 (.pointer (some ⟨p, 0, none⟩))) := by simp [World.cell?, kk]
  have q2 : W.cell? ⟨w.heap.size, 2, none⟩ = some (.func (Fn.func 83) #[] #[]) := by simp [World.cell?, kk]
  clear k1 u1 kk u2
  have hrow := (Upd.refl [] W).drew.range (u12.range hpc hgl (by simp)) (Nat.lt_of_lt_of_le hgl u12.size) (by simp)
  have hmr := mrow_f64 p W.drew _ hh.cell
  refine wp_region_split (S := Upd [] W) [(true, 0), (true, 1), (true, 2), (true, 3), (true, 4)] [5] [6, 7] (by kernel_rfl) (by kernel_rfl) (fun _ _ d _ _ h => by cases d <;> exact h) ((Upd.refl _ _).drew) ?_
  simp only [readsAt, opersAt, Option.map_some, List.filterMap_cons, List.filterMap_nil, List.getElem?_toArray, List.getElem?_cons_succ, List.getElem?_cons_zero]
  iterate 5 (refine ⟨_, Or.inl ⟨by rfl, fun w' hS => by first | (have e0 := Upd.cell1 hS q0 (by simp); have e1 := Upd.cell1 hS q2 (by simp); first | (go_simp; done) | (go_simp; with_reducible rfl)) | (go_simp; done) | (go_simp; with_reducible rfl)⟩, ?_⟩; simp only [Act.put, List.setIfInBounds_toArray, List.set_cons_zero, List.set_cons_succ])
  intro L0 hL0
  rw [if_pos (by rfl)]
  go_simp; refine (vrow_f64 g n c i r _ hrow (Nat.lt_of_lt_of_le hgl u12.size) (by omega)).mono ?_; rintro e w1 ⟨rfl, hu1⟩
  refine hL0 _ _ ⟨hu1.ofDrew, ?_⟩
  clear hL0 L0
  try simp only [preThen]
  change wpList _ _ _ [_, _] _ _
  have m1 := hu1.ofDrew.at k2 (by simp)
  go_wp2_with (first
    | (go_at_call 83; (refine (vout_f64 r hr _).mono ?_); rintro e w2 ⟨rfl, hu2⟩; have m2 := hu2.at m1 (by simp))
    | ((with_reducible show wpList _ _ _ _ _ _); refine wpList_store_blk rfl 67 (.tmp 4) (.tmp 11) rfl (b := w.heap.size + 1) rfl m2 (cs := (kept_f64 r).cells) rfl rfl (by kernel_rfl) (by simp [R4.cells, Value.oneCell']) ?_; intro w4 hb4 hu4; simp only [Act.put]))
  refine bodyPost_ret (results_cell1 Tryz.results362 (b := w.heap.size + 1) rfl (run_loadVar_mid w4 (w.heap.size + 1) 0 67 (kept_f64 r).cells _ (rangeAt_blk hb4) Tryz.underlying67 rfl (by kernel_rfl))) rfl ⟨rfl, ?_⟩
  exact ((u12.trans hu1.ofDrew (fun _ h => .inl h)).trans hu2 (fun _ h => .inl h)).trans hu4 (fun y hy => by simp at hy; exact .inr (by omega))
theorem mapp_bf (p : Nat) (w : World) : (method 625 272 (.pointer (some ⟨p, 0, none⟩)) "Append").run Tryz.prog w = .ok (363, .pointer (some ⟨p, 0, none⟩)) w := by kernel_rfl
theorem mrow1_bf (k p : Nat) (w : World) : (method (k + 1) 272 (.pointer (some ⟨p, 0, none⟩)) "Row").run Tryz.prog w = (do let v ← receiverAt 272 (.val (.pointer (some ⟨p, 0, none⟩))) false (some "Row"); pure (368, v) : Sem (FuncId × Value)).run Tryz.prog w := by kernel_rfl
theorem mrow2_bf (p : Nat) (w : World) : (receiverAt 272 (.val (.pointer (some ⟨p, 0, none⟩))) false (some "Row")).run Tryz.prog w = (loadVar 273 ⟨p, 0, none⟩).run Tryz.prog w := by kernel_rfl
theorem load_bf (p : Nat) (w : World) (v : Value) (h : w.cell? ⟨p, 0, none⟩ = some v) : (loadVar 273 ⟨p, 0, none⟩).run Tryz.prog w = .ok v w := by go_simp
theorem mrow_bf (p : Nat) (w : World) (v : Value) (h : w.cell? ⟨p, 0, none⟩ = some v) : (method 625 272 (.pointer (some ⟨p, 0, none⟩)) "Row").run Tryz.prog w = .ok (368, v) w := by
  rw [show 625 = (625 - 1) + 1 from rfl, mrow1_bf]
  simp only [Sem.run_bind, mrow2_bf, load_bf p w v h, Result.andThen_ok, Sem.run_pure]
set_option maxRecDepth 100000 in
set_option maxHeartbeats 1000000 in
theorem add_bf (p : Nat) (ar : Option Addr) (n c : Nat) (rs : List R4) (ao : Option Addr) (m cp : Nat) (xs : List Value) (w : World) (hr : View w 4 ar n (rs.flatMap R4.cells)) (hc : Hold w p 273 22 1 ao m cp xs)
    (hap : 0 < n → Apart ar p ao) (hn : n ≤ 1000) (hm : m ≤ 100000) :
    Calls Tryz.prog 349 #[V_bf p, .slice ar n c] w fun e w' => e = .returned (.tuple #[]) ∧ Grew w w' p 273 22 1 ao (m + n) (xs ++ rs.flatMap cells_bf) := by
  have hrl : rs.length = n := by have := hr.len; rw [flatMap_len _ 4 R4.cells_len] at this; omega
  have hpw := hc.lt
  go_enter Tryz.func349, Tryz.ntmps349
  simp only [V_bf]
  go_wp2
  have hcB : (w.alloc (Obj.cells #[.iface 272 (.pointer (some ⟨p, 0, none⟩)), .func (Fn.func 79) #[] #[], .func (Fn.func 80) #[] #[]] 259)).heap[w.heap.size]? = some (Obj.cells #[.iface 272 (.pointer (some ⟨p, 0, none⟩)), .func (Fn.func 79) #[] #[], .func (Fn.func 80) #[] #[]] 259) := heap_alloc_new _ _
  have hU0 := (Upd.refl [] w).alloc (Obj.cells #[.iface 272 (.pointer (some ⟨p, 0, none⟩)), .func (Fn.func 79) #[] #[], .func (Fn.func 80) #[] #[]] 259)
  have hBn : w.heap.size ∉ p :: bk ao := fun h => by
    rcases List.mem_cons.1 h with h | h
    · omega
    · have := hc.bk_lt _ h; omega
  have hBl := lt_of_block hcB
  generalize w.alloc (Obj.cells #[.iface 272 (.pointer (some ⟨p, 0, none⟩)), .func (Fn.func 79) #[] #[], .func (Fn.func 80) #[] #[]] 259) = W0 at *
  have hc0 := hc.kept hU0 (by simp) (by simp)
  have hr0 := hr.upd hU0 (by simp)
  go_loopw [8] (fun i wr => ∃ (k : Nat) (ao' : Option Addr) (c' : Nat), k ≤ n ∧ i = .int .i64 k ∧ Hold wr p 273 22 1 ao' (m + k) c' (xs ++ (rs.take k).flatMap cells_bf) ∧ Upd (p :: bk ao) W0 wr ∧ In (bk ao) W0.heap.size ao')
    (fun i _ => n - (intOf i).toNat)
  case atStart => exact ⟨0, ao, cp, Nat.zero_le _, rfl, by simpa using hc0, Upd.refl _ _, In.self (fun _ h => h)⟩
  case round =>
    obtain ⟨k, ao', c', hk, rfl, hH, hU, hI⟩ := hrel
    by_cases hlt : k < n
    · have hk0 : ((k : Int) < n) := by omega
      obtain ⟨b, o, rfl, hrr, hbb⟩ := hr0.at_ (by omega)
      have hbn : b ∉ p :: bk ao := (hap (by omega)).not b (by simp)
      obtain ⟨r, hx⟩ : ∃ r, r = rs[k]'(by omega) := ⟨_, rfl⟩
      have hcell : ∀ j, j < 4 → wr.cell? ⟨b, o + k * 4 + j, none⟩ = r.cells[j]? := fun j hj => by
        rw [hU.cell hbb hbn, Nat.add_assoc]
        have h1 := rows_get rs k (by omega) j hj
        rw [← hx] at h1
        obtain ⟨u, hu⟩ : ∃ u, r.cells[j]? = some u := ⟨r.cells[j]'(by rw [R4.cells_len]; omega), by simp⟩
        rw [hu]
        exact hrr (k * 4 + j) u (h1.trans hu)
      have d0 := hcell 0 (by omega)
      have d1 := hcell 1 (by omega)
      have d2 := hcell 2 (by omega)
      have d3 := hcell 3 (by omega)
      have HX := Lib.hid hx
      clear hx hcell
      obtain ⟨ra, rb, rc, rd⟩ := r
      simp only [R4.cells, Nat.add_zero, List.getElem?_cons_zero, List.getElem?_cons_succ] at d0 d1 d2 d3
      have hB := hU.at hcB hBn
      have e0 : wr.cell? ⟨w.heap.size, 0, none⟩ = some (.iface 272 (.pointer (some ⟨p, 0, none⟩))) := by simp [World.cell?, hB]
      have e1 : wr.cell? ⟨w.heap.size, 1, none⟩ = some (.func (Fn.func 79) #[] #[]) := by simp [World.cell?, hB]
      have hBw := lt_of_block hB
      go_wp2
      have n0 := World.cell?_alloc_at (w := wr) #[Value.int .u64 ra, .int .u64 rb, .int .u64 rc, .int .u64 rd] 67 wr.heap.size 0 rfl
      have n1 := World.cell?_alloc_at (w := wr) #[Value.int .u64 ra, .int .u64 rb, .int .u64 rc, .int .u64 rd] 67 wr.heap.size 1 rfl
      have n2 := World.cell?_alloc_at (w := wr) #[Value.int .u64 ra, .int .u64 rb, .int .u64 rc, .int .u64 rd] 67 wr.heap.size 2 rfl
      have n3 := World.cell?_alloc_at (w := wr) #[Value.int .u64 ra, .int .u64 rb, .int .u64 rc, .int .u64 rd] 67 wr.heap.size 3 rfl
      have hUn := (Upd.refl [] wr).alloc (Obj.cells #[Value.int .u64 ra, .int .u64 rb, .int .u64 rc, .int .u64 rd] 67)
      generalize wr.alloc (Obj.cells #[Value.int .u64 ra, .int .u64 rb, .int .u64 rc, .int .u64 rd] 67) = W at *
      have g0 := hUn.cell1 e0 (by simp)
      have g1 := hUn.cell1 e1 (by simp)
      simp only [List.getElem?_toArray, List.getElem?_cons_zero, List.getElem?_cons_succ] at n0 n1 n2 n3
      have hHW := hH.kept hUn (by simp) (by simp)
      have hmeth := mapp_bf p
      refine wp_region_split (S := Upd [] W) [(true, 0), (true, 1), (true, 2), (true, 3), (true, 4), (true, 6), (true, 7)] [5] [8] (by kernel_rfl) (by kernel_rfl) (fun _ _ d _ _ h => by cases d <;> exact h) ((Upd.refl _ _).drew) ?_
      simp only [readsAt, opersAt, Option.map_some, List.filterMap_cons, List.filterMap_nil, List.getElem?_toArray, List.getElem?_cons_succ, List.getElem?_cons_zero]
      iterate 7 (refine ⟨_, Or.inl ⟨by rfl, fun w' hS => by first | (have q0 := Upd.cell1 hS g0 (by simp); have q1 := Upd.cell1 hS g1 (by simp); have q2 := Upd.cell1 hS n0 (by simp); have q3 := Upd.cell1 hS n1 (by simp); have q4 := Upd.cell1 hS n2 (by simp); have q5 := Upd.cell1 hS n3 (by simp); first | (go_simp; done) | (go_simp; with_reducible rfl)) | (go_simp; done) | (go_simp; with_reducible rfl)⟩, ?_⟩; simp only [Act.put, List.setIfInBounds_toArray, List.set_cons_zero, List.set_cons_succ])
      intro L0 hL0
      rw [if_pos (by rfl)]
      go_simp; refine (vin_bf ⟨ra, rb, rc, rd⟩ _).mono ?_; rintro e w1 ⟨rfl, hu1⟩
      refine hL0 _ _ ⟨hu1.ofDrew, ?_⟩
      clear hL0 L0
      try simp only [preThen]
      change wpList _ _ _ [_] _ _
      have hH1 := hHW.kept hu1.ofDrew (by simp) (by simp)
      have hUw := (hUn.trans hu1.ofDrew (fun _ h => .inl h))
      go_wp2_with (go_at_call 363; (with_reducible refine (vapp_bf p _ _ _ _ _ _ hH1 (by omega)).mono ?_); rintro e w2 ⟨rfl, ao2, c2, hH2, hU2, hI2⟩)
      have hUx : Upd (p :: bk ao) W0 w2 := (hU.trans (hUw.mono (by simp) : Upd (p :: bk ao) wr w1) (fun _ h => .inl h)).trans hU2 (fun y hy => by
        rcases List.mem_cons.1 hy with h | h
        · exact .inl (by rw [h]; exact List.mem_cons_self)
        · rcases hI y h with h' | h'
          · exact .inl (List.mem_cons_of_mem _ h')
          · exact .inr h')
      have hIx : In (bk ao) W0.heap.size ao2 := hI.step hI2 (Nat.le_trans hU.size hUw.size)
      have hHx : Hold w2 p 273 22 1 ao2 (m + (k + 1)) c2 (xs ++ (rs.take (k + 1)).flatMap cells_bf) := by
        rw [flatMap_take_succ _ _ _ (by omega), ← HX.out, ← List.append_assoc]
        exact hH2
      clear hH2 hU2 hI2 hH1 hHW
      go_roundw
      case rel => exact ⟨k + 1, ao2, c2, by omega, by go_num, hHx, hUx, hIx⟩
      case measure => simp [intOf]; omega
    · have hk0 : n ≤ k := by omega
      obtain rfl : k = n := by omega
      go_wp2
      go_end0
      refine ⟨rfl, ao', c', ?_, (hU0.mono (by simp)).trans hU (fun _ h => .inl h), hI.le hU0.size⟩
      rw [List.take_of_length_le (by omega)] at hH
      exact hH
set_option maxRecDepth 100000 in
set_option maxHeartbeats 1000000 in
theorem at_bf (p g n c : Nat) (rs : List R4) (i : Nat) (hi : i < rs.length) (w : World) (hrs : ∀ r ∈ rs, Ok4 r) (h : Hold w p 273 22 1 (some ⟨g, 0, none⟩) n c (rs.flatMap cells_bf)) (hl : rs.length = n) :
    Calls Tryz.prog 351 #[V_bf p, .int .i64 i] w fun e w' => e = .returned (kept_bf rs[i]).agg ∧ Upd [] w w' := by
  obtain ⟨r, hx⟩ : ∃ r, r = rs[i] := ⟨_, rfl⟩
  have hr : Ok4 r := hrs r (by rw [hx]; exact List.getElem_mem _)
  have hpc := flat_piece (m := 1) (h.own.view 0 _ (fun j v hj => by rw [Nat.zero_add]; exact hj)) (fun _ => by first | rfl | exact lowV_len _ _ _) i hi
  rw [← hx] at hpc ⊢
  rw [Nat.mul_comm] at hpc
  have hgl : g < w.heap.size := h.own.lt g (by simp)
  clear hx
  go_enter Tryz.func351, Tryz.ntmps351
  simp only [V_bf]
  go_wp2
  obtain ⟨k1, u1, s1⟩ := alloc_facts w (Obj.cells #[.iface 272 (.pointer (some ⟨p, 0, none⟩)), .func (Fn.func 79) #[] #[], .func (Fn.func 80) #[] #[]] 259)
  obtain ⟨k2, u2, s2⟩ := alloc_facts (w.alloc (Obj.cells #[.iface 272 (.pointer (some ⟨p, 0, none⟩)), .func (Fn.func 79) #[] #[], .func (Fn.func 80) #[] #[]] 259)) (Obj.cells #[.int .u64 0, .int .u64 0, .int .u64 0, .int .u64 0] 67)
  generalize (w.alloc (Obj.cells #[.iface 272 (.pointer (some ⟨p, 0, none⟩)), .func (Fn.func 79) #[] #[], .func (Fn.func 80) #[] #[]] 259)).alloc (Obj.cells #[.int .u64 0, .int .u64 0, .int .u64 0, .int .u64 0] 67) = W at *
  rw [s1] at k2 s2
  have u12 := u1.trans u2 (fun _ h => .inl h)
  have hh := h.kept u12 (by simp) (by simp)
  have kk := u2.at k1 (by simp)
  have q0 : W.cell? ⟨w.heap.size, 0, none⟩ = some (.iface 272 (.pointer (some ⟨p, 0, none⟩))) := by simp [World.cell?, kk]
  have q2 : W.cell? ⟨w.heap.size, 2, none⟩ = some (.func (Fn.func 80) #[] #[]) := by simp [World.cell?, kk]
  clear k1 u1 kk u2
  have hrow := (Upd.refl [] W).drew.range (u12.range hpc hgl (by simp)) (Nat.lt_of_lt_of_le hgl u12.size) (by simp)
  have hmr := mrow_bf p W.drew _ hh.cell
  refine wp_region_split (S := Upd [] W) [(true, 0), (true, 1), (true, 2), (true, 3), (true, 4)] [5] [6, 7] (by kernel_rfl) (by kernel_rfl) (fun _ _ d _ _ h => by cases d <;> exact h) ((Upd.refl _ _).drew) ?_
  simp only [readsAt, opersAt, Option.map_some, List.filterMap_cons, List.filterMap_nil, List.getElem?_toArray, List.getElem?_cons_succ, List.getElem?_cons_zero]
  iterate 5 (refine ⟨_, Or.inl ⟨by rfl, fun w' hS => by first | (have e0 := Upd.cell1 hS q0 (by simp); have e1 := Upd.cell1 hS q2 (by simp); first | (go_simp; done) | (go_simp; with_reducible rfl)) | (go_simp; done) | (go_simp; with_reducible rfl)⟩, ?_⟩; simp only [Act.put, List.setIfInBounds_toArray, List.set_cons_zero, List.set_cons_succ])
  intro L0 hL0
  rw [if_pos (by rfl)]
  go_simp; refine (vrow_bf g n c i r _ hrow (Nat.lt_of_lt_of_le hgl u12.size) (by omega)).mono ?_; rintro e w1 ⟨rfl, hu1⟩
  refine hL0 _ _ ⟨hu1.ofDrew, ?_⟩
  clear hL0 L0
  try simp only [preThen]
  change wpList _ _ _ [_, _] _ _
  have m1 := hu1.ofDrew.at k2 (by simp)
  go_wp2_with (first
    | (go_at_call 80; (refine (vout_bf r hr _).mono ?_); rintro e w2 ⟨rfl, hu2⟩; have m2 := hu2.at m1 (by simp))
    | ((with_reducible show wpList _ _ _ _ _ _); refine wpList_store_blk rfl 67 (.tmp 4) (.tmp 11) rfl (b := w.heap.size + 1) rfl m2 (cs := (kept_bf r).cells) rfl rfl (by kernel_rfl) (by simp [R4.cells, Value.oneCell']) ?_; intro w4 hb4 hu4; simp only [Act.put]))
  refine bodyPost_ret (results_cell1 Tryz.results351 (b := w.heap.size + 1) rfl (run_loadVar_mid w4 (w.heap.size + 1) 0 67 (kept_bf r).cells _ (rangeAt_blk hb4) Tryz.underlying67 rfl (by kernel_rfl))) rfl ⟨rfl, ?_⟩
  exact ((u12.trans hu1.ofDrew (fun _ h => .inl h)).trans hu2 (fun _ h => .inl h)).trans hu4 (fun y hy => by simp at hy; exact .inr (by omega))
theorem mapp_bool (p : Nat) (w : World) : (method 625 274 (.pointer (some ⟨p, 0, none⟩)) "Append").run Tryz.prog w = .ok (374, .pointer (some ⟨p, 0, none⟩)) w := by kernel_rfl
theorem mrow1_bool (k p : Nat) (w : World) : (method (k + 1) 274 (.pointer (some ⟨p, 0, none⟩)) "Row").run Tryz.prog w = (do let v ← receiverAt 274 (.val (.pointer (some ⟨p, 0, none⟩))) false (some "Row"); pure (378, v) : Sem (FuncId × Value)).run Tryz.prog w := by kernel_rfl
theorem mrow2_bool (p : Nat) (w : World) : (receiverAt 274 (.val (.pointer (some ⟨p, 0, none⟩))) false (some "Row")).run Tryz.prog w = (loadVar 276 ⟨p, 0, none⟩).run Tryz.prog w := by kernel_rfl
theorem load_bool (p : Nat) (w : World) (v : Value) (h : w.cell? ⟨p, 0, none⟩ = some v) : (loadVar 276 ⟨p, 0, none⟩).run Tryz.prog w = .ok v w := by go_simp
theorem mrow_bool (p : Nat) (w : World) (v : Value) (h : w.cell? ⟨p, 0, none⟩ = some v) : (method 625 274 (.pointer (some ⟨p, 0, none⟩)) "Row").run Tryz.prog w = .ok (378, v) w := by
  rw [show 625 = (625 - 1) + 1 from rfl, mrow1_bool]
  simp only [Sem.run_bind, mrow2_bool, load_bool p w v h, Result.andThen_ok, Sem.run_pure]
set_option maxRecDepth 100000 in
set_option maxHeartbeats 1000000 in
theorem add_bool (p : Nat) (ar : Option Addr) (n c : Nat) (rs : List R4) (ao : Option Addr) (m cp : Nat) (xs : List Value) (w : World) (hr : View w 4 ar n (rs.flatMap R4.cells)) (hc : Hold w p 276 4 1 ao m cp xs)
    (hap : 0 < n → Apart ar p ao) (hn : n ≤ 1000) (hm : m ≤ 100000) :
    Calls Tryz.prog 383 #[V_bool p, .slice ar n c] w fun e w' => e = .returned (.tuple #[]) ∧ Grew w w' p 276 4 1 ao (m + n) (xs ++ rs.flatMap cells_bool) := by
  have hrl : rs.length = n := by have := hr.len; rw [flatMap_len _ 4 R4.cells_len] at this; omega
  have hpw := hc.lt
  go_enter Tryz.func383, Tryz.ntmps383
  simp only [V_bool]
  go_wp2
  have hcB : (w.alloc (Obj.cells #[.iface 274 (.pointer (some ⟨p, 0, none⟩)), .func (Fn.func 85) #[] #[], .func (Fn.func 86) #[] #[]] 281)).heap[w.heap.size]? = some (Obj.cells #[.iface 274 (.pointer (some ⟨p, 0, none⟩)), .func (Fn.func 85) #[] #[], .func (Fn.func 86) #[] #[]] 281) := heap_alloc_new _ _
  have hU0 := (Upd.refl [] w).alloc (Obj.cells #[.iface 274 (.pointer (some ⟨p, 0, none⟩)), .func (Fn.func 85) #[] #[], .func (Fn.func 86) #[] #[]] 281)
  have hBn : w.heap.size ∉ p :: bk ao := fun h => by
    rcases List.mem_cons.1 h with h | h
    · omega
    · have := hc.bk_lt _ h; omega
  have hBl := lt_of_block hcB
  generalize w.alloc (Obj.cells #[.iface 274 (.pointer (some ⟨p, 0, none⟩)), .func (Fn.func 85) #[] #[], .func (Fn.func 86) #[] #[]] 281) = W0 at *
  have hc0 := hc.kept hU0 (by simp) (by simp)
  have hr0 := hr.upd hU0 (by simp)
  go_loopw [8] (fun i wr => ∃ (k : Nat) (ao' : Option Addr) (c' : Nat), k ≤ n ∧ i = .int .i64 k ∧ Hold wr p 276 4 1 ao' (m + k) c' (xs ++ (rs.take k).flatMap cells_bool) ∧ Upd (p :: bk ao) W0 wr ∧ In (bk ao) W0.heap.size ao')
    (fun i _ => n - (intOf i).toNat)
  case atStart => exact ⟨0, ao, cp, Nat.zero_le _, rfl, by simpa using hc0, Upd.refl _ _, In.self (fun _ h => h)⟩
  case round =>
    obtain ⟨k, ao', c', hk, rfl, hH, hU, hI⟩ := hrel
    by_cases hlt : k < n
    · have hk0 : ((k : Int) < n) := by omega
      obtain ⟨b, o, rfl, hrr, hbb⟩ := hr0.at_ (by omega)
      have hbn : b ∉ p :: bk ao := (hap (by omega)).not b (by simp)
      obtain ⟨r, hx⟩ : ∃ r, r = rs[k]'(by omega) := ⟨_, rfl⟩
      have hcell : ∀ j, j < 4 → wr.cell? ⟨b, o + k * 4 + j, none⟩ = r.cells[j]? := fun j hj => by
        rw [hU.cell hbb hbn, Nat.add_assoc]
        have h1 := rows_get rs k (by omega) j hj
        rw [← hx] at h1
        obtain ⟨u, hu⟩ : ∃ u, r.cells[j]? = some u := ⟨r.cells[j]'(by rw [R4.cells_len]; omega), by simp⟩
        rw [hu]
        exact hrr (k * 4 + j) u (h1.trans hu)
      have d0 := hcell 0 (by omega)
      have d1 := hcell 1 (by omega)
      have d2 := hcell 2 (by omega)
      have d3 := hcell 3 (by omega)
      have HX := Lib.hid hx
      clear hx hcell
      obtain ⟨ra, rb, rc, rd⟩ := r
      simp only [R4.cells, Nat.add_zero, List.getElem?_cons_zero, List.getElem?_cons_succ] at d0 d1 d2 d3
      have hB := hU.at hcB hBn
      have e0 : wr.cell? ⟨w.heap.size, 0, none⟩ = some (.iface 274 (.pointer (some ⟨p, 0, none⟩))) := by simp [World.cell?, hB]
      have e1 : wr.cell? ⟨w.heap.size, 1, none⟩ = some (.func (Fn.func 85) #[] #[]) := by simp [World.cell?, hB]
      have hBw := lt_of_block hB
      go_wp2
      have n0 := World.cell?_alloc_at (w := wr) #[Value.int .u64 ra, .int .u64 rb, .int .u64 rc, .int .u64 rd] 67 wr.heap.size 0 rfl
      have n1 := World.cell?_alloc_at (w := wr) #[Value.int .u64 ra, .int .u64 rb, .int .u64 rc, .int .u64 rd] 67 wr.heap.size 1 rfl
      have n2 := World.cell?_alloc_at (w := wr) #[Value.int .u64 ra, .int .u64 rb, .int .u64 rc, .int .u64 rd] 67 wr.heap.size 2 rfl
      have n3 := World.cell?_alloc_at (w := wr) #[Value.int .u64 ra, .int .u64 rb, .int .u64 rc, .int .u64 rd] 67 wr.heap.size 3 rfl
      have hUn := (Upd.refl [] wr).alloc (Obj.cells #[Value.int .u64 ra, .int .u64 rb, .int .u64 rc, .int .u64 rd] 67)
      generalize wr.alloc (Obj.cells #[Value.int .u64 ra, .int .u64 rb, .int .u64 rc, .int .u64 rd] 67) = W at *
      have g0 := hUn.cell1 e0 (by simp)
      have g1 := hUn.cell1 e1 (by simp)
      simp only [List.getElem?_toArray, List.getElem?_cons_zero, List.getElem?_cons_succ] at n0 n1 n2 n3
      have hHW := hH.kept hUn (by simp) (by simp)
      have hmeth := mapp_bool p
      refine wp_region_split (S := Upd [] W) [(true, 0), (true, 1), (true, 2), (true, 3), (true, 4), (true, 6), (true, 7)] [5] [8] (by kernel_rfl) (by kernel_rfl) (fun _ _ d _ _ h => by cases d <;> exact h) ((Upd.refl _ _).drew) ?_
      simp only [readsAt, opersAt, Option.map_some, List.filterMap_cons, List.filterMap_nil, List.getElem?_toArray, List.getElem?_cons_succ, List.getElem?_cons_zero]
      iterate 7 (refine ⟨_, Or.inl ⟨by rfl, fun w' hS => by first | (have q0 := Upd.cell1 hS g0 (by simp); have q1 := Upd.cell1 hS g1 (by simp); have q2 := Upd.cell1 hS n0 (by simp); have q3 := Upd.cell1 hS n1 (by simp); have q4 := Upd.cell1 hS n2 (by simp); have q5 := Upd.cell1 hS n3 (by simp); first | (go_simp; done) | (go_simp; with_reducible rfl)) | (go_simp; done) | (go_simp; with_reducible rfl)⟩, ?_⟩; simp only [Act.put, List.setIfInBounds_toArray, List.set_cons_zero, List.set_cons_succ])
      intro L0 hL0
      rw [if_pos (by rfl)]
      go_simp; refine (vin_bool ⟨ra, rb, rc, rd⟩ _).mono ?_; rintro e w1 ⟨rfl, hu1⟩
      refine hL0 _ _ ⟨hu1.ofDrew, ?_⟩
      clear hL0 L0
      try simp only [preThen]
      change wpList _ _ _ [_] _ _
      have hH1 := hHW.kept hu1.ofDrew (by simp) (by simp)
      have hUw := (hUn.trans hu1.ofDrew (fun _ h => .inl h))
      go_wp2_with (go_at_call 374; (with_reducible refine (vapp_bool p _ _ _ _ _ _ hH1 (by omega)).mono ?_); rintro e w2 ⟨rfl, ao2, c2, hH2, hU2, hI2⟩)
      have hUx : Upd (p :: bk ao) W0 w2 := (hU.trans (hUw.mono (by simp) : Upd (p :: bk ao) wr w1) (fun _ h => .inl h)).trans hU2 (fun y hy => by
        rcases List.mem_cons.1 hy with h | h
        · exact .inl (by rw [h]; exact List.mem_cons_self)
        · rcases hI y h with h' | h'
          · exact .inl (List.mem_cons_of_mem _ h')
          · exact .inr h')
      have hIx : In (bk ao) W0.heap.size ao2 := hI.step hI2 (Nat.le_trans hU.size hUw.size)
      have hHx : Hold w2 p 276 4 1 ao2 (m + (k + 1)) c2 (xs ++ (rs.take (k + 1)).flatMap cells_bool) := by
        rw [flatMap_take_succ _ _ _ (by omega), ← HX.out, ← List.append_assoc]
        exact hH2
      clear hH2 hU2 hI2 hH1 hHW
      go_roundw
      case rel => exact ⟨k + 1, ao2, c2, by omega, by go_num, hHx, hUx, hIx⟩
      case measure => simp [intOf]; omega
    · have hk0 : n ≤ k := by omega
      obtain rfl : k = n := by omega
      go_wp2
      go_end0
      refine ⟨rfl, ao', c', ?_, (hU0.mono (by simp)).trans hU (fun _ h => .inl h), hI.le hU0.size⟩
      rw [List.take_of_length_le (by omega)] at hH
      exact hH
set_option maxRecDepth 100000 in
set_option maxHeartbeats 1000000 in
theorem at_bool (p g n c : Nat) (rs : List R4) (i : Nat) (hi : i < rs.length) (w : World) (hrs : ∀ r ∈ rs, Ok4 r) (h : Hold w p 276 4 1 (some ⟨g, 0, none⟩) n c (rs.flatMap cells_bool)) (hl : rs.length = n) :
    Calls Tryz.prog 385 #[V_bool p, .int .i64 i] w fun e w' => e = .returned (kept_bool rs[i]).agg ∧ Upd [] w w' := by
  obtain ⟨r, hx⟩ : ∃ r, r = rs[i] := ⟨_, rfl⟩
  have hr : Ok4 r := hrs r (by rw [hx]; exact List.getElem_mem _)
  have hpc := flat_piece (m := 1) (h.own.view 0 _ (fun j v hj => by rw [Nat.zero_add]; exact hj)) (fun _ => by first | rfl | exact lowV_len _ _ _) i hi
  rw [← hx] at hpc ⊢
  rw [Nat.mul_comm] at hpc
  have hgl : g < w.heap.size := h.own.lt g (by simp)
  clear hx
  go_enter Tryz.func385, Tryz.ntmps385
  simp only [V_bool]
  go_wp2
  obtain ⟨k1, u1, s1⟩ := alloc_facts w (Obj.cells #[.iface 274 (.pointer (some ⟨p, 0, none⟩)), .func (Fn.func 85) #[] #[], .func (Fn.func 86) #[] #[]] 281)
  obtain ⟨k2, u2, s2⟩ := alloc_facts (w.alloc (Obj.cells #[.iface 274 (.pointer (some ⟨p, 0, none⟩)), .func (Fn.func 85) #[] #[], .func (Fn.func 86) #[] #[]] 281)) (Obj.cells #[.int .u64 0, .int .u64 0, .int .u64 0, .int .u64 0] 67)
  generalize (w.alloc (Obj.cells #[.iface 274 (.pointer (some ⟨p, 0, none⟩)), .func (Fn.func 85) #[] #[], .func (Fn.func 86) #[] #[]] 281)).alloc (Obj.cells #[.int .u64 0, .int .u64 0, .int .u64 0, .int .u64 0] 67) = W at *
  rw [s1] at k2 s2
  have u12 := u1.trans u2 (fun _ h => .inl h)
  have hh := h.kept u12 (by simp) (by simp)
  have kk := u2.at k1 (by simp)
  have q0 : W.cell? ⟨w.heap.size, 0, none⟩ = some (.iface 274 (.pointer (some ⟨p, 0, none⟩))) := by simp [World.cell?, kk]
  have q2 : W.cell? ⟨w.heap.size, 2, none⟩ = some (.func (Fn.func 86) #[] #[]) := by simp [World.cell?, kk]
  clear k1 u1 kk u2
  have hrow := (Upd.refl [] W).drew.range (u12.range hpc hgl (by simp)) (Nat.lt_of_lt_of_le hgl u12.size) (by simp)
  have hmr := mrow_bool p W.drew _ hh.cell
  refine wp_region_split (S := Upd [] W) [(true, 0), (true, 1), (true, 2), (true, 3), (true, 4)] [5] [6, 7] (by kernel_rfl) (by kernel_rfl) (fun _ _ d _ _ h => by cases d <;> exact h) ((Upd.refl _ _).drew) ?_
  simp only [readsAt, opersAt, Option.map_some, List.filterMap_cons, List.filterMap_nil, List.getElem?_toArray, List.getElem?_cons_succ, List.getElem?_cons_zero]
  iterate 5 (refine ⟨_, Or.inl ⟨by rfl, fun w' hS => by first | (have e0 := Upd.cell1 hS q0 (by simp); have e1 := Upd.cell1 hS q2 (by simp); first | (go_simp; done) | (go_simp; with_reducible rfl)) | (go_simp; done) | (go_simp; with_reducible rfl)⟩, ?_⟩; simp only [Act.put, List.setIfInBounds_toArray, List.set_cons_zero, List.set_cons_succ])
  intro L0 hL0
  rw [if_pos (by rfl)]
  go_simp; refine (vrow_bool g n c i r _ hrow (Nat.lt_of_lt_of_le hgl u12.size) (by omega)).mono ?_; rintro e w1 ⟨rfl, hu1⟩
  refine hL0 _ _ ⟨hu1.ofDrew, ?_⟩
  clear hL0 L0
  try simp only [preThen]
  change wpList _ _ _ [_, _] _ _
  have m1 := hu1.ofDrew.at k2 (by simp)
  go_wp2_with (first
    | (go_at_call 86; (refine (vout_bool r hr _).mono ?_); rintro e w2 ⟨rfl, hu2⟩; have m2 := hu2.at m1 (by simp))
    | ((with_reducible show wpList _ _ _ _ _ _); refine wpList_store_blk rfl 67 (.tmp 4) (.tmp 11) rfl (b := w.heap.size + 1) rfl m2 (cs := (kept_bool r).cells) rfl rfl (by kernel_rfl) (by simp [R4.cells, Value.oneCell']) ?_; intro w4 hb4 hu4; simp only [Act.put]))
  refine bodyPost_ret (results_cell1 Tryz.results385 (b := w.heap.size + 1) rfl (run_loadVar_mid w4 (w.heap.size + 1) 0 67 (kept_bool r).cells _ (rangeAt_blk hb4) Tryz.underlying67 rfl (by kernel_rfl))) rfl ⟨rfl, ?_⟩
  exact ((u12.trans hu1.ofDrew (fun _ h => .inl h)).trans hu2 (fun _ h => .inl h)).trans hu4 (fun y hy => by simp at hy; exact .inr (by omega))
theorem mapp_ipv4 (p : Nat) (w : World) : (method 625 282 (.pointer (some ⟨p, 0, none⟩)) "Append").run Tryz.prog w = .ok (386, .pointer (some ⟨p, 0, none⟩)) w := by kernel_rfl
theorem mrow1_ipv4 (k p : Nat) (w : World) : (method (k + 1) 282 (.pointer (some ⟨p, 0, none⟩)) "Row").run Tryz.prog w = (do let v ← receiverAt 282 (.val (.pointer (some ⟨p, 0, none⟩))) false (some "Row"); pure (390, v) : Sem (FuncId × Value)).run Tryz.prog w := by kernel_rfl
theorem mrow2_ipv4 (p : Nat) (w : World) : (receiverAt 282 (.val (.pointer (some ⟨p, 0, none⟩))) false (some "Row")).run Tryz.prog w = (loadVar 284 ⟨p, 0, none⟩).run Tryz.prog w := by kernel_rfl
theorem load_ipv4 (p : Nat) (w : World) (v : Value) (h : w.cell? ⟨p, 0, none⟩ = some v) : (loadVar 284 ⟨p, 0, none⟩).run Tryz.prog w = .ok v w := by go_simp
theorem mrow_ipv4 (p : Nat) (w : World) (v : Value) (h : w.cell? ⟨p, 0, none⟩ = some v) : (method 625 282 (.pointer (some ⟨p, 0, none⟩)) "Row").run Tryz.prog w = .ok (390, v) w := by
  rw [show 625 = (625 - 1) + 1 from rfl, mrow1_ipv4]
  simp only [Sem.run_bind, mrow2_ipv4, load_ipv4 p w v h, Result.andThen_ok, Sem.run_pure]
set_option maxRecDepth 100000 in
set_option maxHeartbeats 1000000 in
theorem add_ipv4 (p : Nat) (ar : Option Addr) (n c : Nat) (rs : List R4) (ao : Option Addr) (m cp : Nat) (xs : List Value) (w : World) (hr : View w 4 ar n (rs.flatMap R4.cells)) (hc : Hold w p 284 285 1 ao m cp xs)
    (hap : 0 < n → Apart ar p ao) (hn : n ≤ 1000) (hm : m ≤ 100000) :
    Calls Tryz.prog 394 #[V_ipv4 p, .slice ar n c] w fun e w' => e = .returned (.tuple #[]) ∧ Grew w w' p 284 285 1 ao (m + n) (xs ++ rs.flatMap cells_ipv4) := by
  have hrl : rs.length = n := by have := hr.len; rw [flatMap_len _ 4 R4.cells_len] at this; omega
  have hpw := hc.lt
  go_enter Tryz.func394, Tryz.ntmps394
  simp only [V_ipv4]
  go_wp2
  have hcB : (w.alloc (Obj.cells #[.iface 282 (.pointer (some ⟨p, 0, none⟩)), .func (Fn.func 87) #[] #[], .func (Fn.func 88) #[] #[]] 291)).heap[w.heap.size]? = some (Obj.cells #[.iface 282 (.pointer (some ⟨p, 0, none⟩)), .func (Fn.func 87) #[] #[], .func (Fn.func 88) #[] #[]] 291) := heap_alloc_new _ _
  have hU0 := (Upd.refl [] w).alloc (Obj.cells #[.iface 282 (.pointer (some ⟨p, 0, none⟩)), .func (Fn.func 87) #[] #[], .func (Fn.func 88) #[] #[]] 291)
  have hBn : w.heap.size ∉ p :: bk ao := fun h => by
    rcases List.mem_cons.1 h with h | h
    · omega
    · have := hc.bk_lt _ h; omega
  have hBl := lt_of_block hcB
  generalize w.alloc (Obj.cells #[.iface 282 (.pointer (some ⟨p, 0, none⟩)), .func (Fn.func 87) #[] #[], .func (Fn.func 88) #[] #[]] 291) = W0 at *
  have hc0 := hc.kept hU0 (by simp) (by simp)
  have hr0 := hr.upd hU0 (by simp)
  go_loopw [8] (fun i wr => ∃ (k : Nat) (ao' : Option Addr) (c' : Nat), k ≤ n ∧ i = .int .i64 k ∧ Hold wr p 284 285 1 ao' (m + k) c' (xs ++ (rs.take k).flatMap cells_ipv4) ∧ Upd (p :: bk ao) W0 wr ∧ In (bk ao) W0.heap.size ao')
    (fun i _ => n - (intOf i).toNat)
  case atStart => exact ⟨0, ao, cp, Nat.zero_le _, rfl, by simpa using hc0, Upd.refl _ _, In.self (fun _ h => h)⟩
  case round =>
    obtain ⟨k, ao', c', hk, rfl, hH, hU, hI⟩ := hrel
    by_cases hlt : k < n
    · have hk0 : ((k : Int) < n) := by omega
      obtain ⟨b, o, rfl, hrr, hbb⟩ := hr0.at_ (by omega)
      have hbn : b ∉ p :: bk ao := (hap (by omega)).not b (by simp)
      obtain ⟨r, hx⟩ : ∃ r, r = rs[k]'(by omega) := ⟨_, rfl⟩
      have hcell : ∀ j, j < 4 → wr.cell? ⟨b, o + k * 4 + j, none⟩ = r.cells[j]? := fun j hj => by
        rw [hU.cell hbb hbn, Nat.add_assoc]
        have h1 := rows_get rs k (by omega) j hj
        rw [← hx] at h1
        obtain ⟨u, hu⟩ : ∃ u, r.cells[j]? = some u := ⟨r.cells[j]'(by rw [R4.cells_len]; omega), by simp⟩
        rw [hu]
        exact hrr (k * 4 + j) u (h1.trans hu)
      have d0 := hcell 0 (by omega)
      have d1 := hcell 1 (by omega)
      have d2 := hcell 2 (by omega)
      have d3 := hcell 3 (by omega)
      have HX := Lib.hid hx
      clear hx hcell
      obtain ⟨ra, rb, rc, rd⟩ := r
      simp only [R4.cells, Nat.add_zero, List.getElem?_cons_zero, List.getElem?_cons_succ] at d0 d1 d2 d3
      have hB := hU.at hcB hBn
      have e0 : wr.cell? ⟨w.heap.size, 0, none⟩ = some (.iface 282 (.pointer (some ⟨p, 0, none⟩))) := by simp [World.cell?, hB]
      have e1 : wr.cell? ⟨w.heap.size, 1, none⟩ = some (.func (Fn.func 87) #[] #[]) := by simp [World.cell?, hB]
      have hBw := lt_of_block hB
      go_wp2
      have n0 := World.cell?_alloc_at (w := wr) #[Value.int .u64 ra, .int .u64 rb, .int .u64 rc, .int .u64 rd] 67 wr.heap.size 0 rfl
      have n1 := World.cell?_alloc_at (w := wr) #[Value.int .u64 ra, .int .u64 rb, .int .u64 rc, .int .u64 rd] 67 wr.heap.size 1 rfl
      have n2 := World.cell?_alloc_at (w := wr) #[Value.int .u64 ra, .int .u64 rb, .int .u64 rc, .int .u64 rd] 67 wr.heap.size 2 rfl
      have n3 := World.cell?_alloc_at (w := wr) #[Value.int .u64 ra, .int .u64 rb, .int .u64 rc, .int .u64 rd] 67 wr.heap.size 3 rfl
      have hUn := (Upd.refl [] wr).alloc (Obj.cells #[Value.int .u64 ra, .int .u64 rb, .int .u64 rc, .int .u64 rd] 67)
      generalize wr.alloc (Obj.cells #[Value.int .u64 ra, .int .u64 rb, .int .u64 rc, .int .u64 rd] 67) = W at *
      have g0 := hUn.cell1 e0 (by simp)
      have g1 := hUn.cell1 e1 (by simp)
      simp only [List.getElem?_toArray, List.getElem?_cons_zero, List.getElem?_cons_succ] at n0 n1 n2 n3
      have hHW := hH.kept hUn (by simp) (by simp)
      have hmeth := mapp_ipv4 p
      refine wp_region_split (S := Upd [] W) [(true, 0), (true, 1), (true, 2), (true, 3), (true, 4), (true, 6), (true, 7)] [5] [8] (by kernel_rfl) (by kernel_rfl) (fun _ _ d _ _ h => by cases d <;> exact h) ((Upd.refl _ _).drew) ?_
      simp only [readsAt, opersAt, Option.map_some, List.filterMap_cons, List.filterMap_nil, List.getElem?_toArray, List.getElem?_cons_succ, List.getElem?_cons_zero]
      iterate 7 (refine ⟨_, Or.inl ⟨by rfl, fun w' hS => by first | (have q0 := Upd.cell1 hS g0 (by simp); have q1 := Upd.cell1 hS g1 (by simp); have q2 := Upd.cell1 hS n0 (by simp); have q3 := Upd.cell1 hS n1 (by simp); have q4 := Upd.cell1 hS n2 (by simp); have q5 := Upd.cell1 hS n3 (by simp); first | (go_simp; done) | (go_simp; with_reducible rfl)) | (go_simp; done) | (go_simp; with_reducible rfl)⟩, ?_⟩; simp only [Act.put, List.setIfInBounds_toArray, List.set_cons_zero, List.set_cons_succ])
      intro L0 hL0
      rw [if_pos (by rfl)]
      go_simp; refine (vin_ipv4 ⟨ra, rb, rc, rd⟩ _).mono ?_; rintro e w1 ⟨rfl, hu1⟩
      refine hL0 _ _ ⟨hu1.ofDrew, ?_⟩
      clear hL0 L0
      try simp only [preThen]
      change wpList _ _ _ [_] _ _
      have hH1 := hHW.kept hu1.ofDrew (by simp) (by simp)
      have hUw := (hUn.trans hu1.ofDrew (fun _ h => .inl h))
      go_wp2_with (go_at_call 386; (with_reducible refine (vapp_ipv4 p _ _ _ _ _ _ hH1 (by omega)).mono ?_); rintro e w2 ⟨rfl, ao2, c2, hH2, hU2, hI2⟩)
      have hUx : Upd (p :: bk ao) W0 w2 := (hU.trans (hUw.mono (by simp) : Upd (p :: bk ao) wr w1) (fun _ h => .inl h)).trans hU2 (fun y hy => by
        rcases List.mem_cons.1 hy with h | h
        · exact .inl (by rw [h]; exact List.mem_cons_self)
        · rcases hI y h with h' | h'
          · exact .inl (List.mem_cons_of_mem _ h')
          · exact .inr h')
      have hIx : In (bk ao) W0.heap.size ao2 := hI.step hI2 (Nat.le_trans hU.size hUw.size)
      have hHx : Hold w2 p 284 285 1 ao2 (m + (k + 1)) c2 (xs ++ (rs.take (k + 1)).flatMap cells_ipv4) := by
        rw [flatMap_take_succ _ _ _ (by omega), ← HX.out, ← List.append_assoc]
        exact hH2
      clear hH2 hU2 hI2 hH1 hHW
      go_roundw
      case rel => exact ⟨k + 1, ao2, c2, by omega, by go_num, hHx, hUx, hIx⟩
      case measure => simp [intOf]; omega
    · have hk0 : n ≤ k := by omega
      obtain rfl : k = n := by omega
      go_wp2
      go_end0
      refine ⟨rfl, ao', c', ?_, (hU0.mono (by simp)).trans hU (fun _ h => .inl h), hI.le hU0.size⟩
      rw [List.take_of_length_le (by omega)] at hH
      exact hH
set_option maxRecDepth 100000 in
set_option maxHeartbeats 1000000 in
theorem at_ipv4 (p g n c : Nat) (rs : List R4) (i : Nat) (hi : i < rs.length) (w : World) (hrs : ∀ r ∈ rs, Ok4 r) (h : Hold w p 284 285 1 (some ⟨g, 0, none⟩) n c (rs.flatMap cells_ipv4)) (hl : rs.length = n) :
    Calls Tryz.prog 396 #[V_ipv4 p, .int .i64 i] w fun e w' => e = .returned (kept_ipv4 rs[i]).agg ∧ Upd [] w w' := by
  obtain ⟨r, hx⟩ : ∃ r, r = rs[i] := ⟨_, rfl⟩
  have hr : Ok4 r := hrs r (by rw [hx]; exact List.getElem_mem _)
  have hpc := flat_piece (m := 1) (h.own.view 0 _ (fun j v hj => by rw [Nat.zero_add]; exact hj)) (fun _ => by first | rfl | exact lowV_len _ _ _) i hi
  rw [← hx] at hpc ⊢
  rw [Nat.mul_comm] at hpc
  have hgl : g < w.heap.size := h.own.lt g (by simp)
  clear hx
  go_enter Tryz.func396, Tryz.ntmps396
  simp only [V_ipv4]
  go_wp2
  obtain ⟨k1, u1, s1⟩ := alloc_facts w (Obj.cells #[.iface 282 (.pointer (some ⟨p, 0, none⟩)), .func (Fn.func 87) #[] #[], .func (Fn.func 88) #[] #[]] 291)
  obtain ⟨k2, u2, s2⟩ := alloc_facts (w.alloc (Obj.cells #[.iface 282 (.pointer (some ⟨p, 0, none⟩)), .func (Fn.func 87) #[] #[], .func (Fn.func 88) #[] #[]] 291)) (Obj.cells #[.int .u64 0, .int .u64 0, .int .u64 0, .int .u64 0] 67)
  generalize (w.alloc (Obj.cells #[.iface 282 (.pointer (some ⟨p, 0, none⟩)), .func (Fn.func 87) #[] #[], .func (Fn.func 88) #[] #[]] 291)).alloc (Obj.cells #[.int .u64 0, .int .u64 0, .int .u64 0, .int .u64 0] 67) = W at *
  rw [s1] at k2 s2
  have u12 := u1.trans u2 (fun _ h => .inl h)
  have hh := h.kept u12 (by simp) (by simp)
  have kk := u2.at k1 (by simp)
  have q0 : W.cell? ⟨w.heap.size, 0, none⟩ = some (.iface 282 (.pointer (some ⟨p, 0, none⟩))) := by simp [World.cell?, kk]
  have q2 : W.cell? ⟨w.heap.size, 2, none⟩ = some (.func (Fn.func 88) #[] #[]) := by simp [World.cell?, kk]
  clear k1 u1 kk u2
  have hrow := (Upd.refl [] W).drew.range (u12.range hpc hgl (by simp)) (Nat.lt_of_lt_of_le hgl u12.size) (by simp)
  have hmr := mrow_ipv4 p W.drew _ hh.cell
  refine wp_region_split (S := Upd [] W) [(true, 0), (true, 1), (true, 2), (true, 3), (true, 4)] [5] [6, 7] (by kernel_rfl) (by kernel_rfl) (fun _ _ d _ _ h => by cases d <;> exact h) ((Upd.refl _ _).drew) ?_
  simp only [readsAt, opersAt, Option.map_some, List.filterMap_cons, List.filterMap_nil, List.getElem?_toArray, List.getElem?_cons_succ, List.getElem?_cons_zero]
  iterate 5 (refine ⟨_, Or.inl ⟨by rfl, fun w' hS => by first | (have e0 := Upd.cell1 hS q0 (by simp); have e1 := Upd.cell1 hS q2 (by simp); first | (go_simp; done) | (go_simp; with_reducible rfl)) | (go_simp; done) | (go_simp; with_reducible rfl)⟩, ?_⟩; simp only [Act.put, List.setIfInBounds_toArray, List.set_cons_zero, List.set_cons_succ])
  intro L0 hL0
  rw [if_pos (by rfl)]
  go_simp; refine (vrow_ipv4 g n c i r _ hrow (Nat.lt_of_lt_of_le hgl u12.size) (by omega)).mono ?_; rintro e w1 ⟨rfl, hu1⟩
  refine hL0 _ _ ⟨hu1.ofDrew, ?_⟩
  clear hL0 L0
  try simp only [preThen]
  change wpList _ _ _ [_, _] _ _
  have m1 := hu1.ofDrew.at k2 (by simp)
  go_wp2_with (first
    | (go_at_call 88; (refine (vout_ipv4 r hr _).mono ?_); rintro e w2 ⟨rfl, hu2⟩; have m2 := hu2.at m1 (by simp))
    | ((with_reducible show wpList _ _ _ _ _ _); refine wpList_store_blk rfl 67 (.tmp 4) (.tmp 11) rfl (b := w.heap.size + 1) rfl m2 (cs := (kept_ipv4 r).cells) rfl rfl (by kernel_rfl) (by simp [R4.cells, Value.oneCell']) ?_; intro w4 hb4 hu4; simp only [Act.put]))
  refine bodyPost_ret (results_cell1 Tryz.results396 (b := w.heap.size + 1) rfl (run_loadVar_mid w4 (w.heap.size + 1) 0 67 (kept_ipv4 r).cells _ (rangeAt_blk hb4) Tryz.underlying67 rfl (by kernel_rfl))) rfl ⟨rfl, ?_⟩
  exact ((u12.trans hu1.ofDrew (fun _ h => .inl h)).trans hu2 (fun _ h => .inl h)).trans hu4 (fun y hy => by simp at hy; exact .inr (by omega))
theorem mapp_ip (p : Nat) (w : World) : (method 625 292 (.pointer (some ⟨p, 0, none⟩)) "Append").run Tryz.prog w = .ok (397, .pointer (some ⟨p, 0, none⟩)) w := by kernel_rfl
theorem mrow1_ip (k p : Nat) (w : World) : (method (k + 1) 292 (.pointer (some ⟨p, 0, none⟩)) "Row").run Tryz.prog w = (do let v ← receiverAt 292 (.val (.pointer (some ⟨p, 0, none⟩))) false (some "Row"); pure (401, v) : Sem (FuncId × Value)).run Tryz.prog w := by kernel_rfl
theorem mrow2_ip (p : Nat) (w : World) : (receiverAt 292 (.val (.pointer (some ⟨p, 0, none⟩))) false (some "Row")).run Tryz.prog w = (loadVar 294 ⟨p, 0, none⟩).run Tryz.prog w := by kernel_rfl
theorem load_ip (p : Nat) (w : World) (v : Value) (h : w.cell? ⟨p, 0, none⟩ = some v) : (loadVar 294 ⟨p, 0, none⟩).run Tryz.prog w = .ok v w := by go_simp
theorem mrow_ip (p : Nat) (w : World) (v : Value) (h : w.cell? ⟨p, 0, none⟩ = some v) : (method 625 292 (.pointer (some ⟨p, 0, none⟩)) "Row").run Tryz.prog w = .ok (401, v) w := by
  rw [show 625 = (625 - 1) + 1 from rfl, mrow1_ip]
  simp only [Sem.run_bind, mrow2_ip, load_ip p w v h, Result.andThen_ok, Sem.run_pure]
set_option maxRecDepth 100000 in
set_option maxHeartbeats 1000000 in
theorem add_ip (p : Nat) (ar : Option Addr) (n c : Nat) (rs : List R4) (ao : Option Addr) (m cp : Nat) (xs : List Value) (w : World) (hr : View w 4 ar n (rs.flatMap R4.cells)) (hc : Hold w p 294 296 16 ao m cp xs)
    (hap : 0 < n → Apart ar p ao) (hn : n ≤ 1000) (hm : m ≤ 100000) :
    Calls Tryz.prog 407 #[V_ip p, .slice ar n c] w fun e w' => e = .returned (.tuple #[]) ∧ Grew w w' p 294 296 16 ao (m + n) (xs ++ rs.flatMap cells_ip) := by
  have hrl : rs.length = n := by have := hr.len; rw [flatMap_len _ 4 R4.cells_len] at this; omega
  have hpw := hc.lt
  go_enter Tryz.func407, Tryz.ntmps407
  simp only [V_ip]
  go_wp2
  have hcB : (w.alloc (Obj.cells #[.iface 292 (.pointer (some ⟨p, 0, none⟩)), .func (Fn.func 89) #[] #[], .func (Fn.func 91) #[] #[]] 304)).heap[w.heap.size]? = some (Obj.cells #[.iface 292 (.pointer (some ⟨p, 0, none⟩)), .func (Fn.func 89) #[] #[], .func (Fn.func 91) #[] #[]] 304) := heap_alloc_new _ _
  have hU0 := (Upd.refl [] w).alloc (Obj.cells #[.iface 292 (.pointer (some ⟨p, 0, none⟩)), .func (Fn.func 89) #[] #[], .func (Fn.func 91) #[] #[]] 304)
  have hBn : w.heap.size ∉ p :: bk ao := fun h => by
    rcases List.mem_cons.1 h with h | h
    · omega
    · have := hc.bk_lt _ h; omega
  have hBl := lt_of_block hcB
  generalize w.alloc (Obj.cells #[.iface 292 (.pointer (some ⟨p, 0, none⟩)), .func (Fn.func 89) #[] #[], .func (Fn.func 91) #[] #[]] 304) = W0 at *
  have hc0 := hc.kept hU0 (by simp) (by simp)
  have hr0 := hr.upd hU0 (by simp)
  go_loopw [8] (fun i wr => ∃ (k : Nat) (ao' : Option Addr) (c' : Nat), k ≤ n ∧ i = .int .i64 k ∧ Hold wr p 294 296 16 ao' (m + k) c' (xs ++ (rs.take k).flatMap cells_ip) ∧ Upd (p :: bk ao) W0 wr ∧ In (bk ao) W0.heap.size ao')
    (fun i _ => n - (intOf i).toNat)
  case atStart => exact ⟨0, ao, cp, Nat.zero_le _, rfl, by simpa using hc0, Upd.refl _ _, In.self (fun _ h => h)⟩
  case round =>
    obtain ⟨k, ao', c', hk, rfl, hH, hU, hI⟩ := hrel
    by_cases hlt : k < n
    · have hk0 : ((k : Int) < n) := by omega
      obtain ⟨b, o, rfl, hrr, hbb⟩ := hr0.at_ (by omega)
      have hbn : b ∉ p :: bk ao := (hap (by omega)).not b (by simp)
      obtain ⟨r, hx⟩ : ∃ r, r = rs[k]'(by omega) := ⟨_, rfl⟩
      have hcell : ∀ j, j < 4 → wr.cell? ⟨b, o + k * 4 + j, none⟩ = r.cells[j]? := fun j hj => by
        rw [hU.cell hbb hbn, Nat.add_assoc]
        have h1 := rows_get rs k (by omega) j hj
        rw [← hx] at h1
        obtain ⟨u, hu⟩ : ∃ u, r.cells[j]? = some u := ⟨r.cells[j]'(by rw [R4.cells_len]; omega), by simp⟩
        rw [hu]
        exact hrr (k * 4 + j) u (h1.trans hu)
      have d0 := hcell 0 (by omega)
      have d1 := hcell 1 (by omega)
      have d2 := hcell 2 (by omega)
      have d3 := hcell 3 (by omega)
      have HX := Lib.hid hx
      clear hx hcell
      obtain ⟨ra, rb, rc, rd⟩ := r
      simp only [R4.cells, Nat.add_zero, List.getElem?_cons_zero, List.getElem?_cons_succ] at d0 d1 d2 d3
      have hB := hU.at hcB hBn
      have e0 : wr.cell? ⟨w.heap.size, 0, none⟩ = some (.iface 292 (.pointer (some ⟨p, 0, none⟩))) := by simp [World.cell?, hB]
      have e1 : wr.cell? ⟨w.heap.size, 1, none⟩ = some (.func (Fn.func 89) #[] #[]) := by simp [World.cell?, hB]
      have hBw := lt_of_block hB
      go_wp2
      have n0 := World.cell?_alloc_at (w := wr) #[Value.int .u64 ra, .int .u64 rb, .int .u64 rc, .int .u64 rd] 67 wr.heap.size 0 rfl
      have n1 := World.cell?_alloc_at (w := wr) #[Value.int .u64 ra, .int .u64 rb, .int .u64 rc, .int .u64 rd] 67 wr.heap.size 1 rfl
      have n2 := World.cell?_alloc_at (w := wr) #[Value.int .u64 ra, .int .u64 rb, .int .u64 rc, .int .u64 rd] 67 wr.heap.size 2 rfl
      have n3 := World.cell?_alloc_at (w := wr) #[Value.int .u64 ra, .int .u64 rb, .int .u64 rc, .int .u64 rd] 67 wr.heap.size 3 rfl
      have hUn := (Upd.refl [] wr).alloc (Obj.cells #[Value.int .u64 ra, .int .u64 rb, .int .u64 rc, .int .u64 rd] 67)
      generalize wr.alloc (Obj.cells #[Value.int .u64 ra, .int .u64 rb, .int .u64 rc, .int .u64 rd] 67) = W at *
      have g0 := hUn.cell1 e0 (by simp)
      have g1 := hUn.cell1 e1 (by simp)
      simp only [List.getElem?_toArray, List.getElem?_cons_zero, List.getElem?_cons_succ] at n0 n1 n2 n3
      have hHW := hH.kept hUn (by simp) (by simp)
      have hmeth := mapp_ip p
      refine wp_region_split (S := Upd [] W) [(true, 0), (true, 1), (true, 2), (true, 3), (true, 4), (true, 6), (true, 7)] [5] [8] (by kernel_rfl) (by kernel_rfl) (fun _ _ d _ _ h => by cases d <;> exact h) ((Upd.refl _ _).drew) ?_
      simp only [readsAt, opersAt, Option.map_some, List.filterMap_cons, List.filterMap_nil, List.getElem?_toArray, List.getElem?_cons_succ, List.getElem?_cons_zero]
      iterate 7 (refine ⟨_, Or.inl ⟨by rfl, fun w' hS => by first | (have q0 := Upd.cell1 hS g0 (by simp); have q1 := Upd.cell1 hS g1 (by simp); have q2 := Upd.cell1 hS n0 (by simp); have q3 := Upd.cell1 hS n1 (by simp); have q4 := Upd.cell1 hS n2 (by simp); have q5 := Upd.cell1 hS n3 (by simp); first | (go_simp; done) | (go_simp; with_reducible rfl)) | (go_simp; done) | (go_simp; with_reducible rfl)⟩, ?_⟩; simp only [Act.put, List.setIfInBounds_toArray, List.set_cons_zero, List.set_cons_succ])
      intro L0 hL0
      rw [if_pos (by rfl)]
      go_simp; refine (vin_ip ⟨ra, rb, rc, rd⟩ _).mono ?_; rintro e w1 ⟨rfl, hu1⟩
      refine hL0 _ _ ⟨hu1.ofDrew, ?_⟩
      clear hL0 L0
      try simp only [preThen]
      change wpList _ _ _ [_] _ _
      have hH1 := hHW.kept hu1.ofDrew (by simp) (by simp)
      have hUw := (hUn.trans hu1.ofDrew (fun _ h => .inl h))
      go_wp2_with (go_at_call 397; (with_reducible refine (vapp_ip p _ _ _ _ _ _ hH1 (by omega)).mono ?_); rintro e w2 ⟨rfl, ao2, c2, hH2, hU2, hI2⟩)
      have hUx : Upd (p :: bk ao) W0 w2 := (hU.trans (hUw.mono (by simp) : Upd (p :: bk ao) wr w1) (fun _ h => .inl h)).trans hU2 (fun y hy => by
        rcases List.mem_cons.1 hy with h | h
        · exact .inl (by rw [h]; exact List.mem_cons_self)
        · rcases hI y h with h' | h'
          · exact .inl (List.mem_cons_of_mem _ h')
          · exact .inr h')
      have hIx : In (bk ao) W0.heap.size ao2 := hI.step hI2 (Nat.le_trans hU.size hUw.size)
      have hHx : Hold w2 p 294 296 16 ao2 (m + (k + 1)) c2 (xs ++ (rs.take (k + 1)).flatMap cells_ip) := by
        rw [flatMap_take_succ _ _ _ (by omega), ← HX.out, ← List.append_assoc]
        exact hH2
      clear hH2 hU2 hI2 hH1 hHW
      go_roundw
      case rel => exact ⟨k + 1, ao2, c2, by omega, by go_num, hHx, hUx, hIx⟩
      case measure => simp [intOf]; omega
    · have hk0 : n ≤ k := by omega
      obtain rfl : k = n := by omega
      go_wp2
      go_end0
      refine ⟨rfl, ao', c', ?_, (hU0.mono (by simp)).trans hU (fun _ h => .inl h), hI.le hU0.size⟩
      rw [List.take_of_length_le (by omega)] at hH
      exact hH
set_option maxRecDepth 100000 in
set_option maxHeartbeats 1000000 in
theorem at_ip (p g n c : Nat) (rs : List R4) (i : Nat) (hi : i < rs.length) (w : World) (hrs : ∀ r ∈ rs, Ok4 r) (h : Hold w p 294 296 16 (some ⟨g, 0, none⟩) n c (rs.flatMap cells_ip)) (hl : rs.length = n) :
    Calls Tryz.prog 409 #[V_ip p, .int .i64 i] w fun e w' => e = .returned (kept_ip rs[i]).agg ∧ Upd [] w w' := by
  obtain ⟨r, hx⟩ : ∃ r, r = rs[i] := ⟨_, rfl⟩
  have hr : Ok4 r := hrs r (by rw [hx]; exact List.getElem_mem _)
  have hpc := flat_piece (m := 16) (h.own.view 0 _ (fun j v hj => by rw [Nat.zero_add]; exact hj)) (fun _ => by first | rfl | exact lowV_len _ _ _) i hi
  rw [← hx] at hpc ⊢
  rw [Nat.mul_comm] at hpc
  have hgl : g < w.heap.size := h.own.lt g (by simp)
  clear hx
  go_enter Tryz.func409, Tryz.ntmps409
  simp only [V_ip]
  go_wp2
  obtain ⟨k1, u1, s1⟩ := alloc_facts w (Obj.cells #[.iface 292 (.pointer (some ⟨p, 0, none⟩)), .func (Fn.func 89) #[] #[], .func (Fn.func 91) #[] #[]] 304)
  obtain ⟨k2, u2, s2⟩ := alloc_facts (w.alloc (Obj.cells #[.iface 292 (.pointer (some ⟨p, 0, none⟩)), .func (Fn.func 89) #[] #[], .func (Fn.func 91) #[] #[]] 304)) (Obj.cells #[.int .u64 0, .int .u64 0, .int .u64 0, .int .u64 0] 67)
  generalize (w.alloc (Obj.cells #[.iface 292 (.pointer (some ⟨p, 0, none⟩)), .func (Fn.func 89) #[] #[], .func (Fn.func 91) #[] #[]] 304)).alloc (Obj.cells #[.int .u64 0, .int .u64 0, .int .u64 0, .int .u64 0] 67) = W at *
  rw [s1] at k2 s2
  have u12 := u1.trans u2 (fun _ h => .inl h)
  have hh := h.kept u12 (by simp) (by simp)
  have kk := u2.at k1 (by simp)
  have q0 : W.cell? ⟨w.heap.size, 0, none⟩ = some (.iface 292 (.pointer (some ⟨p, 0, none⟩))) := by simp [World.cell?, kk]
  have q2 : W.cell? ⟨w.heap.size, 2, none⟩ = some (.func (Fn.func 91) #[] #[]) := by simp [World.cell?, kk]
  clear k1 u1 kk u2
  have hrow := (Upd.refl [] W).drew.range (u12.range hpc hgl (by simp)) (Nat.lt_of_lt_of_le hgl u12.size) (by simp)
  have hmr := mrow_ip p W.drew _ hh.cell
  refine wp_region_split (S := Upd [] W) [(true, 0), (true, 1), (true, 2), (true, 3), (true, 4)] [5] [6, 7] (by kernel_rfl) (by kernel_rfl) (fun _ _ d _ _ h => by cases d <;> exact h) ((Upd.refl _ _).drew) ?_
  simp only [readsAt, opersAt, Option.map_some, List.filterMap_cons, List.filterMap_nil, List.getElem?_toArray, List.getElem?_cons_succ, List.getElem?_cons_zero]
  iterate 5 (refine ⟨_, Or.inl ⟨by rfl, fun w' hS => by first | (have e0 := Upd.cell1 hS q0 (by simp); have e1 := Upd.cell1 hS q2 (by simp); first | (go_simp; done) | (go_simp; with_reducible rfl)) | (go_simp; done) | (go_simp; with_reducible rfl)⟩, ?_⟩; simp only [Act.put, List.setIfInBounds_toArray, List.set_cons_zero, List.set_cons_succ])
  intro L0 hL0
  rw [if_pos (by rfl)]
  go_simp; refine (vrow_ip g n c i r _ hrow (Nat.lt_of_lt_of_le hgl u12.size) (by omega)).mono ?_; rintro e w1 ⟨rfl, hu1⟩
  refine hL0 _ _ ⟨hu1.ofDrew, ?_⟩
  clear hL0 L0
  try simp only [preThen]
  change wpList _ _ _ [_, _] _ _
  have m1 := hu1.ofDrew.at k2 (by simp)
  go_wp2_with (first
    | (go_at_call 91; (refine (vout_ip r hr _).mono ?_); rintro e w2 ⟨rfl, hu2⟩; have m2 := hu2.at m1 (by simp))
    | ((with_reducible show wpList _ _ _ _ _ _); refine wpList_store_blk rfl 67 (.tmp 4) (.tmp 11) rfl (b := w.heap.size + 1) rfl m2 (cs := (kept_ip r).cells) rfl rfl (by kernel_rfl) (by simp [R4.cells, Value.oneCell']) ?_; intro w4 hb4 hu4; simp only [Act.put]))
  refine bodyPost_ret (results_cell1 Tryz.results409 (b := w.heap.size + 1) rfl (run_loadVar_mid w4 (w.heap.size + 1) 0 67 (kept_ip r).cells _ (rangeAt_blk hb4) Tryz.underlying67 rfl (by kernel_rfl))) rfl ⟨rfl, ?_⟩
  exact ((u12.trans hu1.ofDrew (fun _ h => .inl h)).trans hu2 (fun _ h => .inl h)).trans hu4 (fun y hy => by simp at hy; exact .inr (by omega))
end Go.Proofs.YtfbohkbpgfnceaaGreatDoor
