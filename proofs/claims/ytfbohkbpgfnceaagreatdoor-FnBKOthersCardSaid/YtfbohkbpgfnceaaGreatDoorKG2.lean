/- numbersOf.add and .at of six kinds. -/
import Derived.Test.YtfbohkbpgfnceaaGreatDoorKF
namespace Go.Proofs.YtfbohkbpgfnceaaGreatDoor
set_option linter.unusedVariables false
set_option linter.unusedSimpArgs false
open Go Go.RowKit
theorem mapp_u8 (p : Nat) (w : World) : (method 625 163 (.pointer (some ⟨p, 0, none⟩)) "Append").run Tryz.prog w = .ok (274, .pointer (some ⟨p, 0, none⟩)) w := by kernel_rfl
theorem mrow1_u8 (k p : Nat) (w : World) : (method (k + 1) 163 (.pointer (some ⟨p, 0, none⟩)) "Row").run Tryz.prog w = (do let v ← receiverAt 163 (.val (.pointer (some ⟨p, 0, none⟩))) false (some "Row"); pure (278, v) : Sem (FuncId × Value)).run Tryz.prog w := by kernel_rfl
theorem mrow2_u8 (p : Nat) (w : World) : (receiverAt 163 (.val (.pointer (some ⟨p, 0, none⟩))) false (some "Row")).run Tryz.prog w = (loadVar 164 ⟨p, 0, none⟩).run Tryz.prog w := by kernel_rfl
theorem load_u8 (p : Nat) (w : World) (v : Value) (h : w.cell? ⟨p, 0, none⟩ = some v) : (loadVar 164 ⟨p, 0, none⟩).run Tryz.prog w = .ok v w := by go_simp
theorem mrow_u8 (p : Nat) (w : World) (v : Value) (h : w.cell? ⟨p, 0, none⟩ = some v) : (method 625 163 (.pointer (some ⟨p, 0, none⟩)) "Row").run Tryz.prog w = .ok (278, v) w := by
  rw [show 625 = (625 - 1) + 1 from rfl, mrow1_u8]
  simp only [Sem.run_bind, mrow2_u8, load_u8 p w v h, Result.andThen_ok, Sem.run_pure]
set_option maxRecDepth 100000 in
set_option maxHeartbeats 1000000 in
theorem add_u8 (p : Nat) (ar : Option Addr) (n c : Nat) (rs : List R4) (ao : Option Addr) (m cp : Nat) (xs : List Value) (w : World) (hr : View w 4 ar n (rs.flatMap R4.cells)) (hc : Hold w p 164 5 1 ao m cp xs)
    (hap : 0 < n → Apart ar p ao) (hn : n ≤ 1000) (hm : m ≤ 100000) :
    Calls Tryz.prog 282 #[V_u8 p, .slice ar n c] w fun e w' => e = .returned (.tuple #[]) ∧ Grew w w' p 164 5 1 ao (m + n) (xs ++ rs.flatMap cells_u8) := by
  have hrl : rs.length = n := by have := hr.len; rw [flatMap_len _ 4 R4.cells_len] at this; omega
  have hpw := hc.lt
  go_enter Tryz.func282, Tryz.ntmps282
  simp only [V_u8]
  go_wp2
  have hcB : (w.alloc (Obj.cells #[.iface 163 (.pointer (some ⟨p, 0, none⟩)), .func (Fn.func 51) #[] #[], .func (Fn.func 52) #[] #[]] 170)).heap[w.heap.size]? = some (Obj.cells #[.iface 163 (.pointer (some ⟨p, 0, none⟩)), .func (Fn.func 51) #[] #[], .func (Fn.func 52) #[] #[]] 170) := heap_alloc_new _ _
  have hU0 := (Upd.refl [] w).alloc (Obj.cells #[.iface 163 (.pointer (some ⟨p, 0, none⟩)), .func (Fn.func 51) #[] #[], .func (Fn.func 52) #[] #[]] 170)
  have hBn : w.heap.size ∉ p :: bk ao := fun h => by
    rcases List.mem_cons.1 h with h | h
    · omega
    · have := hc.bk_lt _ h; omega
  have hBl := lt_of_block hcB
  generalize w.alloc (Obj.cells #[.iface 163 (.pointer (some ⟨p, 0, none⟩)), .func (Fn.func 51) #[] #[], .func (Fn.func 52) #[] #[]] 170) = W0 at *
  have hc0 := hc.kept hU0 (by simp) (by simp)
  have hr0 := hr.upd hU0 (by simp)
  go_loopw [8] (fun i wr => ∃ (k : Nat) (ao' : Option Addr) (c' : Nat), k ≤ n ∧ i = .int .i64 k ∧ Hold wr p 164 5 1 ao' (m + k) c' (xs ++ (rs.take k).flatMap cells_u8) ∧ Upd (p :: bk ao) W0 wr ∧ In (bk ao) W0.heap.size ao')
    (fun i _ => n - (intOf i).toNat)
  case atStart => exact ⟨0, ao, cp, Nat.zero_le _, rfl, by simpa using hc0, Upd.refl _ _, In.self (fun _ h => h)⟩
  case round =>
    obtain ⟨k, ao', c', hk, rfl, hH, hU, hI⟩ := hrel
    by_cases hlt : k < n
    · have hk0 : ((k : Int) < n) := by omega
      obtain ⟨b, o, rfl, hrr, hbb⟩ := hr0.at_ (by omega)
      have hbn : b ∉ p :: bk ao := (hap (by omega)).not b (by simp)
      obtain ⟨r, hx⟩ : ∃ r, r = rs[k]'(by omega) := ⟨_, rfl⟩
      have hcell : ∀ j, j < 4 → wr.cell? ⟨b, o + k * 4 + j, none⟩ = r.cells[j]? := fun j hj => by
        rw [hU.cell hbb hbn, Nat.add_assoc]
        have h1 := rows_get rs k (by omega) j hj
        rw [← hx] at h1
        obtain ⟨u, hu⟩ : ∃ u, r.cells[j]? = some u := ⟨r.cells[j]'(by rw [R4.cells_len]; omega), by simp⟩
        rw [hu]
        exact hrr (k * 4 + j) u (h1.trans hu)
      have d0 := hcell 0 (by omega)
      have d1 := hcell 1 (by omega)
      have d2 := hcell 2 (by omega)
      have d3 := hcell 3 (by omega)
      have HX := Lib.hid hx
      clear hx hcell
      obtain ⟨ra, rb, rc, rd⟩ := r
      simp only [R4.cells, Nat.add_zero, List.getElem?_cons_zero, List.getElem?_cons_succ] at d0 d1 d2 d3
      have hB := hU.at hcB hBn
      have e0 : wr.cell? ⟨w.heap.size, 0, none⟩ = some (.iface 163 (.pointer (some ⟨p, 0, none⟩))) := by simp [World.cell?, hB]
      have e1 : wr.cell? ⟨w.heap.size, 1, none⟩ = some (.func (Fn.func 51) #[] #[]) := by simp [World.cell?, hB]
      have hBw := lt_of_block hB
      go_wp2
      have n0 := World.cell?_alloc_at (w := wr) #[Value.int .u64 ra, .int .u64 rb, .int .u64 rc, .int .u64 rd] 67 wr.heap.size 0 rfl
      have n1 := World.cell?_alloc_at (w := wr) #[Value.int .u64 ra, .int .u64 rb, .int .u64 rc, .int .u64 rd] 67 wr.heap.size 1 rfl
      have n2 := World.cell?_alloc_at (w := wr) #[Value.int .u64 ra, .int .u64 rb, .int .u64 rc, .int .u64 rd] 67 wr.heap.size 2 rfl
      have n3 := World.cell?_alloc_at (w := wr) #[Value.int .u64 ra, .int .u64 rb, .int .u64 rc, .int .u64 rd] 67 wr.heap.size 3 rfl
      have hUn := (Upd.refl [] wr).alloc (Obj.cells #[Value.int .u64 ra, .int .u64 rb, .int .u64 rc, .int .u64 rd] 67)
      generalize wr.alloc (Obj.cells #[Value.int .u64 ra, .int .u64 rb, .int .u64 rc, .int .u64 rd] 67) = W at *
      have g0 := hUn.cell1 e0 (by simp)
      have g1 := hUn.cell1 e1 (by simp)
      simp only [List.getElem?_toArray, List.getElem?_cons_zero, List.getElem?_cons_succ] at n0 n1 n2 n3
      have hHW := hH.kept hUn (by simp) (by simp)
      have hmeth := mapp_u8 p
      refine wp_region_split (S := Upd [] W) [(true, 0), (true, 1), (true, 2), (true, 3), (true, 4), (true, 6), (true, 7)] [5] [8] (by kernel_rfl) (by kernel_rfl) (fun _ _ d _ _ h => by cases d <;> exact h) ((Upd.refl _ _).drew) ?_
      simp only [readsAt, opersAt, Option.map_some, List.filterMap_cons, List.filterMap_nil, List.getElem?_toArray, List.getElem?_cons_succ, List.getElem?_cons_zero]
      iterate 7 (refine ⟨_, Or.inl ⟨by rfl, fun w' hS => by first | (have q0 := Upd.cell1 hS g0 (by simp); have q1 := Upd.cell1 hS g1 (by simp); have q2 := Upd.cell1 hS n0 (by simp); have q3 := Upd.cell1 hS n1 (by simp); have q4 := Upd.cell1 hS n2 (by simp); have q5 := Upd.cell1 hS n3 (by simp); first | (go_simp; done) | (go_simp; with_reducible rfl)) | (go_simp; done) | (go_simp; with_reducible rfl)⟩, ?_⟩; simp only [Act.put, List.setIfInBounds_toArray, List.set_cons_zero, List.set_cons_succ])
      intro L0 hL0
      rw [if_pos (by rfl)]
      go_simp; refine (vin_u8 ⟨ra, rb, rc, rd⟩ _).mono ?_; rintro e w1 ⟨rfl, hu1⟩
      refine hL0 _ _ ⟨hu1.ofDrew, ?_⟩
      clear hL0 L0
      try simp only [preThen]
      change wpList _ _ _ [_] _ _
      have hH1 := hHW.kept hu1.ofDrew (by simp) (by simp)
      have hUw := (hUn.trans hu1.ofDrew (fun _ h => .inl h))
      go_wp2_with (go_at_call 274; (with_reducible refine (vapp_u8 p _ _ _ _ _ _ hH1 (by omega)).mono ?_); rintro e w2 ⟨rfl, ao2, c2, hH2, hU2, hI2⟩)
      have hUx : Upd (p :: bk ao) W0 w2 := (hU.trans (hUw.mono (by simp) : Upd (p :: bk ao) wr w1) (fun _ h => .inl h)).trans hU2 (fun y hy => by
        rcases List.mem_cons.1 hy with h | h
        · exact .inl (by rw [h]; exact List.mem_cons_self)
        · rcases hI y h with h' | h'
          · exact .inl (List.mem_cons_of_mem _ h')
          · exact .inr h')
      have hIx : In (bk ao) W0.heap.size ao2 := hI.step hI2 (Nat.le_trans hU.size hUw.size)
      have hHx : Hold w2 p 164 5 1 ao2 (m + (k + 1)) c2 (xs ++ (rs.take (k + 1)).flatMap cells_u8) := by
        rw [flatMap_take_succ _ _ _ (by omega), ← HX.out, ← List.append_assoc]
        exact hH2
      clear hH2 hU2 hI2 hH1 hHW
      go_roundw
      case rel => exact ⟨k + 1, ao2, c2, by omega, by go_num, hHx, hUx, hIx⟩
      case measure => simp [intOf]; omega
    · have hk0 : n ≤ k := by omega
      obtain rfl : k = n := by omega
      go_wp2
      go_end0
      refine ⟨rfl, ao', c', ?_, (hU0.mono (by simp)).trans hU (fun _ h => .inl h), hI.le hU0.size⟩
      rw [List.take_of_length_le (by omega)] at hH
      exact hH
set_option maxRecDepth 100000 in
set_option maxHeartbeats 1000000 in
theorem at_u8 (p g n c : Nat) (rs : List R4) (i : Nat) (hi : i < rs.length) (w : World) (hrs : ∀ r ∈ rs, Ok4 r) (h : Hold w p 164 5 1 (some ⟨g, 0, none⟩) n c (rs.flatMap cells_u8)) (hl : rs.length = n) :
    Calls Tryz.prog 284 #[V_u8 p, .int .i64 i] w fun e w' => e = .returned (kept_u8 rs[i]).agg ∧ Upd [] w w' := by
  obtain ⟨r, hx⟩ : ∃ r, r = rs[i] := ⟨_, rfl⟩
  have hr : Ok4 r := hrs r (by rw [hx]; exact List.getElem_mem _)
  have hpc := flat_piece (m := 1) (h.own.view 0 _ (fun j v hj => by rw [Nat.zero_add]; exact hj)) (fun _ => by first | rfl | exact lowV_len _ _ _) i hi
  rw [← hx] at hpc ⊢
  rw [Nat.mul_comm] at hpc
  have hgl : g < w.heap.size := h.own.lt g (by simp)
  clear hx
  go_enter Tryz.func284, Tryz.ntmps284
  simp only [V_u8]
  go_wp2
  obtain ⟨k1, u1, s1⟩ := alloc_facts w (Obj.cells #[.iface 163 (.pointer (some ⟨p, 0, none⟩)), .func (Fn.func 51) #[] #[], .func (Fn.func 52) #[] #[]] 170)
  obtain ⟨k2, u2, s2⟩ := alloc_facts (w.alloc (Obj.cells #[.iface 163 (.pointer (some ⟨p, 0, none⟩)), .func (Fn.func 51) #[] #[], .func (Fn.func 52) #[] #[]] 170)) (Obj.cells #[.int .u64 0, .int .u64 0, .int .u64 0, .int .u64 0] 67)
  generalize (w.alloc (Obj.cells #[.iface 163 (.pointer (some ⟨p, 0, none⟩)), .func (Fn.func 51) #[] #[], .func (Fn.func 52) #[] #[]] 170)).alloc (Obj.cells #[.int .u64 0, .int .u64 0, .int .u64 0, .int .u64 0] 67) = W at *
  rw [s1] at k2 s2
  have u12 := u1.trans u2 (fun _ h => .inl h)
  have hh := h.kept u12 (by simp) (by simp)
  have kk := u2.at k1 (by simp)
  have q0 : W.cell? ⟨w.heap.size, 0, none⟩ = some (.iface 163 (.pointer (some ⟨p, 0, none⟩))) := by simp [World.cell?, kk]
  have q2 : W.cell? ⟨w.heap.size, 2, none⟩ = some (.func (Fn.func 52) #[] #[]) := by simp [World.cell?, kk]
  clear k1 u1 kk u2
  have hrow := (Upd.refl [] W).drew.range (u12.range hpc hgl (by simp)) (Nat.lt_of_lt_of_le hgl u12.size) (by simp)
  have hmr := mrow_u8 p W.drew _ hh.cell
  refine wp_region_split (S := Upd [] W) [(true, 0), (true, 1), (true, 2), (true, 3), (true, 4)] [5] [6, 7] (by kernel_rfl) (by kernel_rfl) (fun _ _ d _ _ h => by cases d <;> exact h) ((Upd.refl _ _).drew) ?_
  simp only [readsAt, opersAt, Option.map_some, List.filterMap_cons, List.filterMap_nil, List.getElem?_toArray, List.getElem?_cons_succ, List.getElem?_cons_zero]
  iterate 5 (refine ⟨_, Or.inl ⟨by rfl, fun w' hS => by first | (have e0 := Upd.cell1 hS q0 (by simp); have e1 := Upd.cell1 hS q2 (by simp); first | (go_simp; done) | (go_simp; with_reducible rfl)) | (go_simp; done) | (go_simp; with_reducible rfl)⟩, ?_⟩; simp only [Act.put, List.setIfInBounds_toArray, List.set_cons_zero, List.set_cons_succ])
  intro L0 hL0
  rw [if_pos (by rfl)]
  go_simp; refine (vrow_u8 g n c i r _ hrow (Nat.lt_of_lt_of_le hgl u12.size) (by omega)).mono ?_; rintro e w1 ⟨rfl, hu1⟩
  refine hL0 _ _ ⟨hu1.ofDrew, ?_⟩
  clear hL0 L0
  try simp only [preThen]
  change wpList _ _ _ [_, _] _ _
  have m1 := hu1.ofDrew.at k2 (by simp)
  go_wp2_with (first
    | (go_at_call 52; (refine (vout_u8 r hr _).mono ?_); rintro e w2 ⟨rfl, hu2⟩; have m2 := hu2.at m1 (by simp))
    | ((with_reducible show wpList _ _ _ _ _ _); refine wpList_store_blk rfl 67 (.tmp 4) (.tmp 11) rfl (b := w.heap.size + 1) rfl m2 (cs := (kept_u8 r).cells) rfl rfl (by kernel_rfl) (by simp [R4.cells, Value.oneCell']) ?_; intro w4 hb4 hu4; simp only [Act.put]))
  refine bodyPost_ret (results_cell1 Tryz.results284 (b := w.heap.size + 1) rfl (run_loadVar_mid w4 (w.heap.size + 1) 0 67 (kept_u8 r).cells _ (rangeAt_blk hb4) Tryz.underlying67 rfl (by kernel_rfl))) rfl ⟨rfl, ?_⟩
  exact ((u12.trans hu1.ofDrew (fun _ h => .inl h)).trans hu2 (fun _ h => .inl h)).trans hu4 (fun y hy => by simp at hy; exact .inr (by omega))
theorem mapp_u16 (p : Nat) (w : World) : (method 625 171 (.pointer (some ⟨p, 0, none⟩)) "Append").run Tryz.prog w = .ok (285, .pointer (some ⟨p, 0, none⟩)) w := by kernel_rfl
theorem mrow1_u16 (k p : Nat) (w : World) : (method (k + 1) 171 (.pointer (some ⟨p, 0, none⟩)) "Row").run Tryz.prog w = (do let v ← receiverAt 171 (.val (.pointer (some ⟨p, 0, none⟩))) false (some "Row"); pure (289, v) : Sem (FuncId × Value)).run Tryz.prog w := by kernel_rfl
theorem mrow2_u16 (p : Nat) (w : World) : (receiverAt 171 (.val (.pointer (some ⟨p, 0, none⟩))) false (some "Row")).run Tryz.prog w = (loadVar 173 ⟨p, 0, none⟩).run Tryz.prog w := by kernel_rfl
theorem load_u16 (p : Nat) (w : World) (v : Value) (h : w.cell? ⟨p, 0, none⟩ = some v) : (loadVar 173 ⟨p, 0, none⟩).run Tryz.prog w = .ok v w := by go_simp
theorem mrow_u16 (p : Nat) (w : World) (v : Value) (h : w.cell? ⟨p, 0, none⟩ = some v) : (method 625 171 (.pointer (some ⟨p, 0, none⟩)) "Row").run Tryz.prog w = .ok (289, v) w := by
  rw [show 625 = (625 - 1) + 1 from rfl, mrow1_u16]
  simp only [Sem.run_bind, mrow2_u16, load_u16 p w v h, Result.andThen_ok, Sem.run_pure]
set_option maxRecDepth 100000 in
set_option maxHeartbeats 1000000 in
theorem add_u16 (p : Nat) (ar : Option Addr) (n c : Nat) (rs : List R4) (ao : Option Addr) (m cp : Nat) (xs : List Value) (w : World) (hr : View w 4 ar n (rs.flatMap R4.cells)) (hc : Hold w p 173 22 1 ao m cp xs)
    (hap : 0 < n → Apart ar p ao) (hn : n ≤ 1000) (hm : m ≤ 100000) :
    Calls Tryz.prog 293 #[V_u16 p, .slice ar n c] w fun e w' => e = .returned (.tuple #[]) ∧ Grew w w' p 173 22 1 ao (m + n) (xs ++ rs.flatMap cells_u16) := by
  have hrl : rs.length = n := by have := hr.len; rw [flatMap_len _ 4 R4.cells_len] at this; omega
  have hpw := hc.lt
  go_enter Tryz.func293, Tryz.ntmps293
  simp only [V_u16]
  go_wp2
  have hcB : (w.alloc (Obj.cells #[.iface 171 (.pointer (some ⟨p, 0, none⟩)), .func (Fn.func 53) #[] #[], .func (Fn.func 54) #[] #[]] 179)).heap[w.heap.size]? = some (Obj.cells #[.iface 171 (.pointer (some ⟨p, 0, none⟩)), .func (Fn.func 53) #[] #[], .func (Fn.func 54) #[] #[]] 179) := heap_alloc_new _ _
  have hU0 := (Upd.refl [] w).alloc (Obj.cells #[.iface 171 (.pointer (some ⟨p, 0, none⟩)), .func (Fn.func 53) #[] #[], .func (Fn.func 54) #[] #[]] 179)
  have hBn : w.heap.size ∉ p :: bk ao := fun h => by
    rcases List.mem_cons.1 h with h | h
    · omega
    · have := hc.bk_lt _ h; omega
  have hBl := lt_of_block hcB
  generalize w.alloc (Obj.cells #[.iface 171 (.pointer (some ⟨p, 0, none⟩)), .func (Fn.func 53) #[] #[], .func (Fn.func 54) #[] #[]] 179) = W0 at *
  have hc0 := hc.kept hU0 (by simp) (by simp)
  have hr0 := hr.upd hU0 (by simp)
  go_loopw [8] (fun i wr => ∃ (k : Nat) (ao' : Option Addr) (c' : Nat), k ≤ n ∧ i = .int .i64 k ∧ Hold wr p 173 22 1 ao' (m + k) c' (xs ++ (rs.take k).flatMap cells_u16) ∧ Upd (p :: bk ao) W0 wr ∧ In (bk ao) W0.heap.size ao')
    (fun i _ => n - (intOf i).toNat)
  case atStart => exact ⟨0, ao, cp, Nat.zero_le _, rfl, by simpa using hc0, Upd.refl _ _, In.self (fun _ h => h)⟩
  case round =>
    obtain ⟨k, ao', c', hk, rfl, hH, hU, hI⟩ := hrel
    by_cases hlt : k < n
    · have hk0 : ((k : Int) < n) := by omega
      obtain ⟨b, o, rfl, hrr, hbb⟩ := hr0.at_ (by omega)
      have hbn : b ∉ p :: bk ao := (hap (by omega)).not b (by simp)
      obtain ⟨r, hx⟩ : ∃ r, r = rs[k]'(by omega) := ⟨_, rfl⟩
      have hcell : ∀ j, j < 4 → wr.cell? ⟨b, o + k * 4 + j, none⟩ = r.cells[j]? := fun j hj => by
        rw [hU.cell hbb hbn, Nat.add_assoc]
        have h1 := rows_get rs k (by omega) j hj
        rw [← hx] at h1
        obtain ⟨u, hu⟩ : ∃ u, r.cells[j]? = some u := ⟨r.cells[j]'(by rw [R4.cells_len]; omega), by simp⟩
        rw [hu]
        exact hrr (k * 4 + j) u (h1.trans hu)
      have d0 := hcell 0 (by omega)
      have d1 := hcell 1 (by omega)
      have d2 := hcell 2 (by omega)
      have d3 := hcell 3 (by omega)
      have HX := Lib.hid hx
      clear hx hcell
      obtain ⟨ra, rb, rc, rd⟩ := r
      simp only [R4.cells, Nat.add_zero, List.getElem?_cons_zero, List.getElem?_cons_succ] at d0 d1 d2 d3
      have hB := hU.at hcB hBn
      have e0 : wr.cell? ⟨w.heap.size, 0, none⟩ = some (.iface 171 (.pointer (some ⟨p, 0, none⟩))) := by simp [World.cell?, hB]
      have e1 : wr.cell? ⟨w.heap.size, 1, none⟩ = some (.func (Fn.func 53) #[] #[]) := by simp [World.cell?, hB]
      have hBw := lt_of_block hB
      go_wp2
      have n0 := World.cell?_alloc_at (w := wr) #[Value.int .u64 ra, .int .u64 rb, .int .u64 rc, .int .u64 rd] 67 wr.heap.size 0 rfl
      have n1 := World.cell?_alloc_at (w := wr) #[Value.int .u64 ra, .int .u64 rb, .int .u64 rc, .int .u64 rd] 67 wr.heap.size 1 rfl
      have n2 := World.cell?_alloc_at (w := wr) #[Value.int .u64 ra, .int .u64 rb, .int .u64 rc, .int .u64 rd] 67 wr.heap.size 2 rfl
      have n3 := World.cell?_alloc_at (w := wr) #[Value.int .u64 ra, .int .u64 rb, .int .u64 rc, .int .u64 rd] 67 wr.heap.size 3 rfl
      have hUn := (Upd.refl [] wr).alloc (Obj.cells #[Value.int .u64 ra, .int .u64 rb, .int .u64 rc, .int .u64 rd] 67)
      generalize wr.alloc (Obj.cells #[Value.int .u64 ra, .int .u64 rb, .int .u64 rc, .int .u64 rd] 67) = W at *
      have g0 := hUn.cell1 e0 (by simp)
      have g1 := hUn.cell1 e1 (by simp)
      simp only [List.getElem?_toArray, List.getElem?_cons_zero, List.getElem?_cons_succ] at n0 n1 n2 n3
      have hHW := hH.kept hUn (by simp) (by simp)
      have hmeth := mapp_u16 p
      refine wp_region_split (S := Upd [] W) [(true, 0), (true, 1), (true, 2), (true, 3), (true, 4), (true, 6), (true, 7)] [5] [8] (by kernel_rfl) (by kernel_rfl) (fun _ _ d _ _ h => by cases d <;> exact h) ((Upd.refl _ _).drew) ?_
      simp only [readsAt, opersAt, Option.map_some, List.filterMap_cons, List.filterMap_nil, List.getElem?_toArray, List.getElem?_cons_succ, List.getElem?_cons_zero]
      iterate 7 (refine ⟨_, Or.inl ⟨by rfl, fun w' hS => by first | (have q0 := Upd.cell1 hS g0 (by simp); have q1 := Upd.cell1 hS g1 (by simp); have q2 := Upd.cell1 hS n0 (by simp); have q3 := Upd.cell1 hS n1 (by simp); have q4 := Upd.cell1 hS n2 (by simp); have q5 := Upd.cell1 hS n3 (by simp); first | (go_simp; done) | (go_simp; with_reducible rfl)) | (go_simp; done) | (go_simp; with_reducible rfl)⟩, ?_⟩; simp only [Act.put, List.setIfInBounds_toArray, List.set_cons_zero, List.set_cons_succ])
      intro L0 hL0
      rw [if_pos (by rfl)]
      go_simp; refine (vin_u16 ⟨ra, rb, rc, rd⟩ _).mono ?_; rintro e w1 ⟨rfl, hu1⟩
      refine hL0 _ _ ⟨hu1.ofDrew, ?_⟩
      clear hL0 L0
      try simp only [preThen]
      change wpList _ _ _ [_] _ _
      have hH1 := hHW.kept hu1.ofDrew (by simp) (by simp)
      have hUw := (hUn.trans hu1.ofDrew (fun _ h => .inl h))
      go_wp2_with (go_at_call 285; (with_reducible refine (vapp_u16 p _ _ _ _ _ _ hH1 (by omega)).mono ?_); rintro e w2 ⟨rfl, ao2, c2, hH2, hU2, hI2⟩)
      have hUx : Upd (p :: bk ao) W0 w2 := (hU.trans (hUw.mono (by simp) : Upd (p :: bk ao) wr w1) (fun _ h => .inl h)).trans hU2 (fun y hy => by
        rcases List.mem_cons.1 hy with h | h
        · exact .inl (by rw [h]; exact List.mem_cons_self)
        · rcases hI y h with h' | h'
          · exact .inl (List.mem_cons_of_mem _ h')
          · exact .inr h')
      have hIx : In (bk ao) W0.heap.size ao2 := hI.step hI2 (Nat.le_trans hU.size hUw.size)
      have hHx : Hold w2 p 173 22 1 ao2 (m + (k + 1)) c2 (xs ++ (rs.take (k + 1)).flatMap cells_u16) := by
        rw [flatMap_take_succ _ _ _ (by omega), ← HX.out, ← List.append_assoc]
        exact hH2
      clear hH2 hU2 hI2 hH1 hHW
      go_roundw
      case rel => exact ⟨k + 1, ao2, c2, by omega, by go_num, hHx, hUx, hIx⟩
      case measure => simp [intOf]; omega
    · have hk0 : n ≤ k := by omega
      obtain rfl : k = n := by omega
      go_wp2
      go_end0
      refine ⟨rfl, ao', c', ?_, (hU0.mono (by simp)).trans hU (fun _ h => .inl h), hI.le hU0.size⟩
      rw [List.take_of_length_le (by omega)] at hH
      exact hH
set_option maxRecDepth 100000 in
set_option maxHeartbeats 1000000 in
theorem at_u16 (p g n c : Nat) (rs : List R4) (i : Nat) (hi : i < rs.length) (w : World) (hrs : ∀ r ∈ rs, Ok4 r) (h : Hold w p 173 22 1 (some ⟨g, 0, none⟩) n c (rs.flatMap cells_u16)) (hl : rs.length = n) :
    Calls Tryz.prog 295 #[V_u16 p, .int .i64 i] w fun e w' => e = .returned (kept_u16 rs[i]).agg ∧ Upd [] w w' := by
  obtain ⟨r, hx⟩ : ∃ r, r = rs[i] := ⟨_, rfl⟩
  have hr : Ok4 r := hrs r (by rw [hx]; exact List.getElem_mem _)
  have hpc := flat_piece (m := 1) (h.own.view 0 _ (fun j v hj => by rw [Nat.zero_add]; exact hj)) (fun _ => by first | rfl | exact lowV_len _ _ _) i hi
  rw [← hx] at hpc ⊢
  rw [Nat.mul_comm] at hpc
  have hgl : g < w.heap.size := h.own.lt g (by simp)
  clear hx
  go_enter Tryz.func295, Tryz.ntmps295
  simp only [V_u16]
  go_wp2
  obtain ⟨k1, u1, s1⟩ := alloc_facts w (Obj.cells #[.iface 171 (.pointer (some ⟨p, 0, none⟩)), .func (Fn.func 53) #[] #[], .func (Fn.func 54) #[] #[]] 179)
  obtain ⟨k2, u2, s2⟩ := alloc_facts (w.alloc (Obj.cells #[.iface 171 (.pointer (some ⟨p, 0, none⟩)), .func (Fn.func 53) #[] #[], .func (Fn.func 54) #[] #[]] 179)) (Obj.cells #[.int .u64 0, .int .u64 0, .int .u64 0, .int .u64 0] 67)
  generalize (w.alloc (Obj.cells #[.iface 171 (.pointer (some ⟨p, 0, none⟩)), .func (Fn.func 53) #[] #[], .func (Fn.func 54) #[] #[]] 179)).alloc (Obj.cells #[.int .u64 0, .int .u64 0, .int .u64 0, .int .u64 0] 67) = W at *
  rw [s1] at k2 s2
  have u12 := u1.trans u2 (fun _ h => .inl h)
  have hh := h.kept u12 (by simp) (by simp)
  have kk := u2.at k1 (by simp)
  have q0 : W.cell? ⟨w.heap.size, 0, none⟩ = some (.iface 171 (.pointer (some ⟨p, 0, none⟩))) := by simp [World.cell?, kk]
  have q2 : W.cell? ⟨w.heap.size, 2, none⟩ = some (.func (Fn.func 54) #[] #[]) := by simp [World.cell?, kk]
  clear k1 u1 kk u2
  have hrow := (Upd.refl [] W).drew.range (u12.range hpc hgl (by simp)) (Nat.lt_of_lt_of_le hgl u12.size) (by simp)
  have hmr := mrow_u16 p W.drew _ hh.cell
  refine wp_region_split (S := Upd [] W) [(true, 0), (true, 1), (true, 2), (true, 3), (true, 4)] [5] [6, 7] (by kernel_rfl) (by kernel_rfl) (fun _ _ d _ _ h => by cases d <;> exact h) ((Upd.refl _ _).drew) ?_
  simp only [readsAt, opersAt, Option.map_some, List.filterMap_cons, List.filterMap_nil, List.getElem?_toArray, List.getElem?_cons_succ, List.getElem?_cons_zero]
  iterate 5 (refine ⟨_, Or.inl ⟨by rfl, fun w' hS => by first | (have e0 := Upd.cell1 hS q0 (by simp); have e1 := Upd.cell1 hS q2 (by simp); first | (go_simp; done) | (go_simp; with_reducible rfl)) | (go_simp; done) | (go_simp; with_reducible rfl)⟩, ?_⟩; simp only [Act.put, List.setIfInBounds_toArray, List.set_cons_zero, List.set_cons_succ])
  intro L0 hL0
  rw [if_pos (by rfl)]
  go_simp; refine (vrow_u16 g n c i r _ hrow (Nat.lt_of_lt_of_le hgl u12.size) (by omega)).mono ?_; rintro e w1 ⟨rfl, hu1⟩
  refine hL0 _ _ ⟨hu1.ofDrew, ?_⟩
  clear hL0 L0
  try simp only [preThen]
  change wpList _ _ _ [_, _] _ _
  have m1 := hu1.ofDrew.at k2 (by simp)
  go_wp2_with (first
    | (go_at_call 54; (refine (vout_u16 r hr _).mono ?_); rintro e w2 ⟨rfl, hu2⟩; have m2 := hu2.at m1 (by simp))
    | ((with_reducible show wpList _ _ _ _ _ _); refine wpList_store_blk rfl 67 (.tmp 4) (.tmp 11) rfl (b := w.heap.size + 1) rfl m2 (cs := (kept_u16 r).cells) rfl rfl (by kernel_rfl) (by simp [R4.cells, Value.oneCell']) ?_; intro w4 hb4 hu4; simp only [Act.put]))
  refine bodyPost_ret (results_cell1 Tryz.results295 (b := w.heap.size + 1) rfl (run_loadVar_mid w4 (w.heap.size + 1) 0 67 (kept_u16 r).cells _ (rangeAt_blk hb4) Tryz.underlying67 rfl (by kernel_rfl))) rfl ⟨rfl, ?_⟩
  exact ((u12.trans hu1.ofDrew (fun _ h => .inl h)).trans hu2 (fun _ h => .inl h)).trans hu4 (fun y hy => by simp at hy; exact .inr (by omega))
theorem mapp_u32 (p : Nat) (w : World) : (method 625 180 (.pointer (some ⟨p, 0, none⟩)) "Append").run Tryz.prog w = .ok (296, .pointer (some ⟨p, 0, none⟩)) w := by kernel_rfl
theorem mrow1_u32 (k p : Nat) (w : World) : (method (k + 1) 180 (.pointer (some ⟨p, 0, none⟩)) "Row").run Tryz.prog w = (do let v ← receiverAt 180 (.val (.pointer (some ⟨p, 0, none⟩))) false (some "Row"); pure (300, v) : Sem (FuncId × Value)).run Tryz.prog w := by kernel_rfl
theorem mrow2_u32 (p : Nat) (w : World) : (receiverAt 180 (.val (.pointer (some ⟨p, 0, none⟩))) false (some "Row")).run Tryz.prog w = (loadVar 182 ⟨p, 0, none⟩).run Tryz.prog w := by kernel_rfl
theorem load_u32 (p : Nat) (w : World) (v : Value) (h : w.cell? ⟨p, 0, none⟩ = some v) : (loadVar 182 ⟨p, 0, none⟩).run Tryz.prog w = .ok v w := by go_simp
theorem mrow_u32 (p : Nat) (w : World) (v : Value) (h : w.cell? ⟨p, 0, none⟩ = some v) : (method 625 180 (.pointer (some ⟨p, 0, none⟩)) "Row").run Tryz.prog w = .ok (300, v) w := by
  rw [show 625 = (625 - 1) + 1 from rfl, mrow1_u32]
  simp only [Sem.run_bind, mrow2_u32, load_u32 p w v h, Result.andThen_ok, Sem.run_pure]
set_option maxRecDepth 100000 in
set_option maxHeartbeats 1000000 in
theorem add_u32 (p : Nat) (ar : Option Addr) (n c : Nat) (rs : List R4) (ao : Option Addr) (m cp : Nat) (xs : List Value) (w : World) (hr : View w 4 ar n (rs.flatMap R4.cells)) (hc : Hold w p 182 69 1 ao m cp xs)
    (hap : 0 < n → Apart ar p ao) (hn : n ≤ 1000) (hm : m ≤ 100000) :
    Calls Tryz.prog 304 #[V_u32 p, .slice ar n c] w fun e w' => e = .returned (.tuple #[]) ∧ Grew w w' p 182 69 1 ao (m + n) (xs ++ rs.flatMap cells_u32) := by
  have hrl : rs.length = n := by have := hr.len; rw [flatMap_len _ 4 R4.cells_len] at this; omega
  have hpw := hc.lt
  go_enter Tryz.func304, Tryz.ntmps304
  simp only [V_u32]
  go_wp2
  have hcB : (w.alloc (Obj.cells #[.iface 180 (.pointer (some ⟨p, 0, none⟩)), .func (Fn.func 55) #[] #[], .func (Fn.func 56) #[] #[]] 188)).heap[w.heap.size]? = some (Obj.cells #[.iface 180 (.pointer (some ⟨p, 0, none⟩)), .func (Fn.func 55) #[] #[], .func (Fn.func 56) #[] #[]] 188) := heap_alloc_new _ _
  have hU0 := (Upd.refl [] w).alloc (Obj.cells #[.iface 180 (.pointer (some ⟨p, 0, none⟩)), .func (Fn.func 55) #[] #[], .func (Fn.func 56) #[] #[]] 188)
  have hBn : w.heap.size ∉ p :: bk ao := fun h => by
    rcases List.mem_cons.1 h with h | h
    · omega
    · have := hc.bk_lt _ h; omega
  have hBl := lt_of_block hcB
  generalize w.alloc (Obj.cells #[.iface 180 (.pointer (some ⟨p, 0, none⟩)), .func (Fn.func 55) #[] #[], .func (Fn.func 56) #[] #[]] 188) = W0 at *
  have hc0 := hc.kept hU0 (by simp) (by simp)
  have hr0 := hr.upd hU0 (by simp)
  go_loopw [8] (fun i wr => ∃ (k : Nat) (ao' : Option Addr) (c' : Nat), k ≤ n ∧ i = .int .i64 k ∧ Hold wr p 182 69 1 ao' (m + k) c' (xs ++ (rs.take k).flatMap cells_u32) ∧ Upd (p :: bk ao) W0 wr ∧ In (bk ao) W0.heap.size ao')
    (fun i _ => n - (intOf i).toNat)
  case atStart => exact ⟨0, ao, cp, Nat.zero_le _, rfl, by simpa using hc0, Upd.refl _ _, In.self (fun _ h => h)⟩
  case round =>
    obtain ⟨k, ao', c', hk, rfl, hH, hU, hI⟩ := hrel
    by_cases hlt : k < n
    · have hk0 : ((k : Int) < n) := by omega
      obtain ⟨b, o, rfl, hrr, hbb⟩ := hr0.at_ (by omega)
      have hbn : b ∉ p :: bk ao := (hap (by omega)).not b (by simp)
      obtain ⟨r, hx⟩ : ∃ r, r = rs[k]'(by omega) := ⟨_, rfl⟩
      have hcell : ∀ j, j < 4 → wr.cell? ⟨b, o + k * 4 + j, none⟩ = r.cells[j]? := fun j hj => by
        rw [hU.cell hbb hbn, Nat.add_assoc]
        have h1 := rows_get rs k (by omega) j hj
        rw [← hx] at h1
        obtain ⟨u, hu⟩ : ∃ u, r.cells[j]? = some u := ⟨r.cells[j]'(by rw [R4.cells_len]; omega), by simp⟩
        rw [hu]
        exact hrr (k * 4 + j) u (h1.trans hu)
      have d0 := hcell 0 (by omega)
      have d1 := hcell 1 (by omega)
      have d2 := hcell 2 (by omega)
      have d3 := hcell 3 (by omega)
      have HX := Lib.hid hx
      clear hx hcell
      obtain ⟨ra, rb, rc, rd⟩ := r
      simp only [R4.cells, Nat.add_zero, List.getElem?_cons_zero, List.getElem?_cons_succ] at d0 d1 d2 d3
      have hB := hU.at hcB hBn
      have e0 : wr.cell? ⟨w.heap.size, 0, none⟩ = some (.iface 180 (.pointer (some ⟨p, 0, none⟩))) := by simp [World.cell?, hB]
      have e1 : wr.cell? ⟨w.heap.size, 1, none⟩ = some (.func (Fn.func 55) #[] #[]) := by simp [World.cell?, hB]
      have hBw := lt_of_block hB
      go_wp2
      have n0 := World.cell?_alloc_at (w := wr) #[Value.int .u64 ra, .int .u64 rb, .int .u64 rc, .int .u64 rd] 67 wr.heap.size 0 rfl
      have n1 := World.cell?_alloc_at (w := wr) #[Value.int .u64 ra, .int .u64 rb, .int .u64 rc, .int .u64 rd] 67 wr.heap.size 1 rfl
      have n2 := World.cell?_alloc_at (w := wr) #[Value.int .u64 ra, .int .u64 rb, .int .u64 rc, .int .u64 rd] 67 wr.heap.size 2 rfl
      have n3 := World.cell?_alloc_at (w := wr) #[Value.int .u64 ra, .int .u64 rb, .int .u64 rc, .int .u64 rd] 67 wr.heap.size 3 rfl
      have hUn := (Upd.refl [] wr).alloc (Obj.cells #[Value.int .u64 ra, .int .u64 rb, .int .u64 rc, .int .u64 rd] 67)
      generalize wr.alloc (Obj.cells #[Value.int .u64 ra, .int .u64 rb, .int .u64 rc, .int .u64 rd] 67) = W at *
      have g0 := hUn.cell1 e0 (by simp)
      have g1 := hUn.cell1 e1 (by simp)
      simp only [List.getElem?_toArray, List.getElem?_cons_zero, List.getElem?_cons_succ] at n0 n1 n2 n3
      have hHW := hH.kept hUn (by simp) (by simp)
      have hmeth := mapp_u32 p
      refine wp_region_split (S := Upd [] W) [(true, 0), (true, 1), (true, 2), (true, 3), (true, 4), (true, 6), (true, 7)] [5] [8] (by kernel_rfl) (by kernel_rfl) (fun _ _ d _ _ h => by cases d <;> exact h) ((Upd.refl _ _).drew) ?_
      simp only [readsAt, opersAt, Option.map_some, List.filterMap_cons, List.filterMap_nil, List.getElem?_toArray, List.getElem?_cons_succ, List.getElem?_cons_zero]
      iterate 7 (refine ⟨_, Or.inl ⟨by rfl, fun w' hS => by first | (have q0 := Upd.cell1 hS g0 (by simp); have q1 := Upd.cell1 hS g1 (by simp); have q2 := Upd.cell1 hS n0 (by simp); have q3 := Upd.cell1 hS n1 (by simp); have q4 := Upd.cell1 hS n2 (by simp); have q5 := Upd.cell1 hS n3 (by simp); first | (go_simp; done) | (go_simp; with_reducible rfl)) | (go_simp; done) | (go_simp; with_reducible rfl)⟩, ?_⟩; simp only [Act.put, List.setIfInBounds_toArray, List.set_cons_zero, List.set_cons_succ])
      intro L0 hL0
      rw [if_pos (by rfl)]
      go_simp; refine (vin_u32 ⟨ra, rb, rc, rd⟩ _).mono ?_; rintro e w1 ⟨rfl, hu1⟩
      refine hL0 _ _ ⟨hu1.ofDrew, ?_⟩
      clear hL0 L0
      try simp only [preThen]
      change wpList _ _ _ [_] _ _
      have hH1 := hHW.kept hu1.ofDrew (by simp) (by simp)
      have hUw := (hUn.trans hu1.ofDrew (fun _ h => .inl h))
      go_wp2_with (go_at_call 296; (with_reducible refine (vapp_u32 p _ _ _ _ _ _ hH1 (by omega)).mono ?_); rintro e w2 ⟨rfl, ao2, c2, hH2, hU2, hI2⟩)
      have hUx : Upd (p :: bk ao) W0 w2 := (hU.trans (hUw.mono (by simp) : Upd (p :: bk ao) wr w1) (fun _ h => .inl h)).trans hU2 (fun y hy => by
        rcases List.mem_cons.1 hy with h | h
        · exact .inl (by rw [h]; exact List.mem_cons_self)
        · rcases hI y h with h' | h'
          · exact .inl (List.mem_cons_of_mem _ h')
          · exact .inr h')
      have hIx : In (bk ao) W0.heap.size ao2 := hI.step hI2 (Nat.le_trans hU.size hUw.size)
      have hHx : Hold w2 p 182 69 1 ao2 (m + (k + 1)) c2 (xs ++ (rs.take (k + 1)).flatMap cells_u32) := by
        rw [flatMap_take_succ _ _ _ (by omega), ← HX.out, ← List.append_assoc]
        exact hH2
      clear hH2 hU2 hI2 hH1 hHW
      go_roundw
      case rel => exact ⟨k + 1, ao2, c2, by omega, by go_num, hHx, hUx, hIx⟩
      case measure => simp [intOf]; omega
    · have hk0 : n ≤ k := by omega
      obtain rfl : k = n := by omega
      go_wp2
      go_end0
      refine ⟨rfl, ao', c', ?_, (hU0.mono (by simp)).trans hU (fun _ h => .inl h), hI.le hU0.size⟩
      rw [List.take_of_length_le (by omega)] at hH
      exact hH
set_option maxRecDepth 100000 in
set_option maxHeartbeats 1000000 in
theorem at_u32 (p g n c : Nat) (rs : List R4) (i : Nat) (hi : i < rs.length) (w : World) (hrs : ∀ r ∈ rs, Ok4 r) (h : Hold w p 182 69 1 (some ⟨g, 0, none⟩) n c (rs.flatMap cells_u32)) (hl : rs.length = n) :
    Calls Tryz.prog 306 #[V_u32 p, .int .i64 i] w fun e w' => e = .returned (kept_u32 rs[i]).agg ∧ Upd [] w w' := by
  obtain ⟨r, hx⟩ : ∃ r, r = rs[i] := ⟨_, rfl⟩
  have hr : Ok4 r := hrs r (by rw [hx]; exact List.getElem_mem _)
  have hpc := flat_piece (m := 1) (h.own.view 0 _ (fun j v hj => by rw [Nat.zero_add]; exact hj)) (fun _ => by first | rfl | exact lowV_len _ _ _) i hi
  rw [← hx] at hpc ⊢
  rw [Nat.mul_comm] at hpc
  have hgl : g < w.heap.size := h.own.lt g (by simp)
  clear hx
  go_enter Tryz.func306, Tryz.ntmps306
  simp only [V_u32]
  go_wp2
  obtain ⟨k1, u1, s1⟩ := alloc_facts w (Obj.cells #[.iface 180 (.pointer (some ⟨p, 0, none⟩)), .func (Fn.func 55) #[] #[], .func (Fn.func 56) #[] #[]] 188)
  obtain ⟨k2, u2, s2⟩ := alloc_facts (w.alloc (Obj.cells #[.iface 180 (.pointer (some ⟨p, 0, none⟩)), .func (Fn.func 55) #[] #[], .func (Fn.func 56) #[] #[]] 188)) (Obj.cells #[.int .u64 0, .int .u64 0, .int .u64 0, .int .u64 0] 67)
  generalize (w.alloc (Obj.cells #[.iface 180 (.pointer (some ⟨p, 0, none⟩)), .func (Fn.func 55) #[] #[], .func (Fn.func 56) #[] #[]] 188)).alloc (Obj.cells #[.int .u64 0, .int .u64 0, .int .u64 0, .int .u64 0] 67) = W at *
  rw [s1] at k2 s2
  have u12 := u1.trans u2 (fun _ h => .inl h)
  have hh := h.kept u12 (by simp) (by simp)
  have kk := u2.at k1 (by simp)
  have q0 : W.cell? ⟨w.heap.size, 0, none⟩ = some (.iface 180 (.pointer (some ⟨p, 0, none⟩))) := by simp [World.cell?, kk]
  have q2 : W.cell? ⟨w.heap.size, 2, none⟩ = some (.func (Fn.func 56) #[] #[]) := by simp [World.cell?, kk]
  clear k1 u1 kk u2
  have hrow := (Upd.refl [] W).drew.range (u12.range hpc hgl (by simp)) (Nat.lt_of_lt_of_le hgl u12.size) (by simp)
  have hmr := mrow_u32 p W.drew _ hh.cell
  refine wp_region_split (S := Upd [] W) [(true, 0), (true, 1), (true, 2), (true, 3), (true, 4)] [5] [6, 7] (by kernel_rfl) (by kernel_rfl) (fun _ _ d _ _ h => by cases d <;> exact h) ((Upd.refl _ _).drew) ?_
  simp only [readsAt, opersAt, Option.map_some, List.filterMap_cons, List.filterMap_nil, List.getElem?_toArray, List.getElem?_cons_succ, List.getElem?_cons_zero]
  iterate 5 (refine ⟨_, Or.inl ⟨by rfl, fun w' hS => by first | (have e0 := Upd.cell1 hS q0 (by simp); have e1 := Upd.cell1 hS q2 (by simp); first | (go_simp; done) | (go_simp; with_reducible rfl)) | (go_simp; done) | (go_simp; with_reducible rfl)⟩, ?_⟩; simp only [Act.put, List.setIfInBounds_toArray, List.set_cons_zero, List.set_cons_succ])
  intro L0 hL0
  rw [if_pos (by rfl)]
  go_simp; refine (vrow_u32 g n c i r _ hrow (Nat.lt_of_lt_of_le hgl u12.size) (by omega)).mono ?_; rintro e w1 ⟨rfl, hu1⟩
  refine hL0 _ _ ⟨hu1.ofDrew, ?_⟩
  clear hL0 L0
  try simp only [preThen]
  change wpList _ _ _ [_, _] _ _
  have m1 := hu1.ofDrew.at k2 (by simp)
  go_wp2_with (first
    | (go_at_call 56; (refine (vout_u32 r hr _).mono ?_); rintro e w2 ⟨rfl, hu2⟩; have m2 := hu2.at m1 (by simp))
    | ((with_reducible show wpList _ _ _ _ _ _); refine wpList_store_blk rfl 67 (.tmp 4) (.tmp 11) rfl (b := w.heap.size + 1) rfl m2 (cs := (kept_u32 r).cells) rfl rfl (by kernel_rfl) (by simp [R4.cells, Value.oneCell']) ?_; intro w4 hb4 hu4; simp only [Act.put]))
  refine bodyPost_ret (results_cell1 Tryz.results306 (b := w.heap.size + 1) rfl (run_loadVar_mid w4 (w.heap.size + 1) 0 67 (kept_u32 r).cells _ (rangeAt_blk hb4) Tryz.underlying67 rfl (by kernel_rfl))) rfl ⟨rfl, ?_⟩
  exact ((u12.trans hu1.ofDrew (fun _ h => .inl h)).trans hu2 (fun _ h => .inl h)).trans hu4 (fun y hy => by simp at hy; exact .inr (by omega))
theorem mapp_u64 (p : Nat) (w : World) : (method 625 189 (.pointer (some ⟨p, 0, none⟩)) "Append").run Tryz.prog w = .ok (307, .pointer (some ⟨p, 0, none⟩)) w := by kernel_rfl
theorem mrow1_u64 (k p : Nat) (w : World) : (method (k + 1) 189 (.pointer (some ⟨p, 0, none⟩)) "Row").run Tryz.prog w = (do let v ← receiverAt 189 (.val (.pointer (some ⟨p, 0, none⟩))) false (some "Row"); pure (311, v) : Sem (FuncId × Value)).run Tryz.prog w := by kernel_rfl
theorem mrow2_u64 (p : Nat) (w : World) : (receiverAt 189 (.val (.pointer (some ⟨p, 0, none⟩))) false (some "Row")).run Tryz.prog w = (loadVar 191 ⟨p, 0, none⟩).run Tryz.prog w := by kernel_rfl
theorem load_u64 (p : Nat) (w : World) (v : Value) (h : w.cell? ⟨p, 0, none⟩ = some v) : (loadVar 191 ⟨p, 0, none⟩).run Tryz.prog w = .ok v w := by go_simp
theorem mrow_u64 (p : Nat) (w : World) (v : Value) (h : w.cell? ⟨p, 0, none⟩ = some v) : (method 625 189 (.pointer (some ⟨p, 0, none⟩)) "Row").run Tryz.prog w = .ok (311, v) w := by
  rw [show 625 = (625 - 1) + 1 from rfl, mrow1_u64]
  simp only [Sem.run_bind, mrow2_u64, load_u64 p w v h, Result.andThen_ok, Sem.run_pure]
set_option maxRecDepth 100000 in
set_option maxHeartbeats 1000000 in
theorem add_u64 (p : Nat) (ar : Option Addr) (n c : Nat) (rs : List R4) (ao : Option Addr) (m cp : Nat) (xs : List Value) (w : World) (hr : View w 4 ar n (rs.flatMap R4.cells)) (hc : Hold w p 191 65 1 ao m cp xs)
    (hap : 0 < n → Apart ar p ao) (hn : n ≤ 1000) (hm : m ≤ 100000) :
    Calls Tryz.prog 315 #[V_u64 p, .slice ar n c] w fun e w' => e = .returned (.tuple #[]) ∧ Grew w w' p 191 65 1 ao (m + n) (xs ++ rs.flatMap cells_u64) := by
  have hrl : rs.length = n := by have := hr.len; rw [flatMap_len _ 4 R4.cells_len] at this; omega
  have hpw := hc.lt
  go_enter Tryz.func315, Tryz.ntmps315
  simp only [V_u64]
  go_wp2
  have hcB : (w.alloc (Obj.cells #[.iface 189 (.pointer (some ⟨p, 0, none⟩)), .func (Fn.func 57) #[] #[], .func (Fn.func 58) #[] #[]] 197)).heap[w.heap.size]? = some (Obj.cells #[.iface 189 (.pointer (some ⟨p, 0, none⟩)), .func (Fn.func 57) #[] #[], .func (Fn.func 58) #[] #[]] 197) := heap_alloc_new _ _
  have hU0 := (Upd.refl [] w).alloc (Obj.cells #[.iface 189 (.pointer (some ⟨p, 0, none⟩)), .func (Fn.func 57) #[] #[], .func (Fn.func 58) #[] #[]] 197)
  have hBn : w.heap.size ∉ p :: bk ao := fun h => by
    rcases List.mem_cons.1 h with h | h
    · omega
    · have := hc.bk_lt _ h; omega
  have hBl := lt_of_block hcB
  generalize w.alloc (Obj.cells #[.iface 189 (.pointer (some ⟨p, 0, none⟩)), .func (Fn.func 57) #[] #[], .func (Fn.func 58) #[] #[]] 197) = W0 at *
  have hc0 := hc.kept hU0 (by simp) (by simp)
  have hr0 := hr.upd hU0 (by simp)
  go_loopw [8] (fun i wr => ∃ (k : Nat) (ao' : Option Addr) (c' : Nat), k ≤ n ∧ i = .int .i64 k ∧ Hold wr p 191 65 1 ao' (m + k) c' (xs ++ (rs.take k).flatMap cells_u64) ∧ Upd (p :: bk ao) W0 wr ∧ In (bk ao) W0.heap.size ao')
    (fun i _ => n - (intOf i).toNat)
  case atStart => exact ⟨0, ao, cp, Nat.zero_le _, rfl, by simpa using hc0, Upd.refl _ _, In.self (fun _ h => h)⟩
  case round =>
    obtain ⟨k, ao', c', hk, rfl, hH, hU, hI⟩ := hrel
    by_cases hlt : k < n
    · have hk0 : ((k : Int) < n) := by omega
      obtain ⟨b, o, rfl, hrr, hbb⟩ := hr0.at_ (by omega)
      have hbn : b ∉ p :: bk ao := (hap (by omega)).not b (by simp)
      obtain ⟨r, hx⟩ : ∃ r, r = rs[k]'(by omega) := ⟨_, rfl⟩
      have hcell : ∀ j, j < 4 → wr.cell? ⟨b, o + k * 4 + j, none⟩ = r.cells[j]? := fun j hj => by
        rw [hU.cell hbb hbn, Nat.add_assoc]
        have h1 := rows_get rs k (by omega) j hj
        rw [← hx] at h1
        obtain ⟨u, hu⟩ : ∃ u, r.cells[j]? = some u := ⟨r.cells[j]'(by rw [R4.cells_len]; omega), by simp⟩
        rw [hu]
        exact hrr (k * 4 + j) u (h1.trans hu)
      have d0 := hcell 0 (by omega)
      have d1 := hcell 1 (by omega)
      have d2 := hcell 2 (by omega)
      have d3 := hcell 3 (by omega)
      have HX := Lib.hid hx
      clear hx hcell
      obtain ⟨ra, rb, rc, rd⟩ := r
      simp only [R4.cells, Nat.add_zero, List.getElem?_cons_zero, List.getElem?_cons_succ] at d0 d1 d2 d3
      have hB := hU.at hcB hBn
      have e0 : wr.cell? ⟨w.heap.size, 0, none⟩ = some (.iface 189 (.pointer (some ⟨p, 0, none⟩))) := by simp [World.cell?, hB]
      have e1 : wr.cell? ⟨w.heap.size, 1, none⟩ = some (.func (Fn.func 57) #[] #[]) := by simp [World.cell?, hB]
      have hBw := lt_of_block hB
      go_wp2
      have n0 := World.cell?_alloc_at (w := wr) #[Value.int .u64 ra, .int .u64 rb, .int .u64 rc, .int .u64 rd] 67 wr.heap.size 0 rfl
      have n1 := World.cell?_alloc_at (w := wr) #[Value.int .u64 ra, .int .u64 rb, .int .u64 rc, .int .u64 rd] 67 wr.heap.size 1 rfl
      have n2 := World.cell?_alloc_at (w := wr) #[Value.int .u64 ra, .int .u64 rb, .int .u64 rc, .int .u64 rd] 67 wr.heap.size 2 rfl
      have n3 := World.cell?_alloc_at (w := wr) #[Value.int .u64 ra, .int .u64 rb, .int .u64 rc, .int .u64 rd] 67 wr.heap.size 3 rfl
      have hUn := (Upd.refl [] wr).alloc (Obj.cells #[Value.int .u64 ra, .int .u64 rb, .int .u64 rc, .int .u64 rd] 67)
      generalize wr.alloc (Obj.cells #[Value.int .u64 ra, .int .u64 rb, .int .u64 rc, .int .u64 rd] 67) = W at *
      have g0 := hUn.cell1 e0 (by simp)
      have g1 := hUn.cell1 e1 (by simp)
      simp only [List.getElem?_toArray, List.getElem?_cons_zero, List.getElem?_cons_succ] at n0 n1 n2 n3
      have hHW := hH.kept hUn (by simp) (by simp)
      have hmeth := mapp_u64 p
      refine wp_region_split (S := Upd [] W) [(true, 0), (true, 1), (true, 2), (true, 3), (true, 4), (true, 6), (true, 7)] [5] [8] (by kernel_rfl) (by kernel_rfl) (fun _ _ d _ _ h => by cases d <;> exact h) ((Upd.refl _ _).drew) ?_
      simp only [readsAt, opersAt, Option.map_some, List.filterMap_cons, List.filterMap_nil, List.getElem?_toArray, List.getElem?_cons_succ, List.getElem?_cons_zero]
      iterate 7 (refine ⟨_, Or.inl ⟨by rfl, fun w' hS => by first | (have q0 := Upd.cell1 hS g0 (by simp); have q1 := Upd.cell1 hS g1 (by simp); have q2 := Upd.cell1 hS n0 (by simp); have q3 := Upd.cell1 hS n1 (by simp); have q4 := Upd.cell1 hS n2 (by simp); have q5 := Upd.cell1 hS n3 (by simp); first | (go_simp; done) | (go_simp; with_reducible rfl)) | (go_simp; done) | (go_simp; with_reducible rfl)⟩, ?_⟩; simp only [Act.put, List.setIfInBounds_toArray, List.set_cons_zero, List.set_cons_succ])
      intro L0 hL0
      rw [if_pos (by rfl)]
      go_simp; refine (vin_u64 ⟨ra, rb, rc, rd⟩ _).mono ?_; rintro e w1 ⟨rfl, hu1⟩
      refine hL0 _ _ ⟨hu1.ofDrew, ?_⟩
      clear hL0 L0
      try simp only [preThen]
      change wpList _ _ _ [_] _ _
      have hH1 := hHW.kept hu1.ofDrew (by simp) (by simp)
      have hUw := (hUn.trans hu1.ofDrew (fun _ h => .inl h))
      go_wp2_with (go_at_call 307; (with_reducible refine (vapp_u64 p _ _ _ _ _ _ hH1 (by omega)).mono ?_); rintro e w2 ⟨rfl, ao2, c2, hH2, hU2, hI2⟩)
      have hUx : Upd (p :: bk ao) W0 w2 := (hU.trans (hUw.mono (by simp) : Upd (p :: bk ao) wr w1) (fun _ h => .inl h)).trans hU2 (fun y hy => by
        rcases List.mem_cons.1 hy with h | h
        · exact .inl (by rw [h]; exact List.mem_cons_self)
        · rcases hI y h with h' | h'
          · exact .inl (List.mem_cons_of_mem _ h')
          · exact .inr h')
      have hIx : In (bk ao) W0.heap.size ao2 := hI.step hI2 (Nat.le_trans hU.size hUw.size)
      have hHx : Hold w2 p 191 65 1 ao2 (m + (k + 1)) c2 (xs ++ (rs.take (k + 1)).flatMap cells_u64) := by
        rw [flatMap_take_succ _ _ _ (by omega), ← HX.out, ← List.append_assoc]
        exact hH2
      clear hH2 hU2 hI2 hH1 hHW
      go_roundw
      case rel => exact ⟨k + 1, ao2, c2, by omega, by go_num, hHx, hUx, hIx⟩
      case measure => simp [intOf]; omega
    · have hk0 : n ≤ k := by omega
      obtain rfl : k = n := by omega
      go_wp2
      go_end0
      refine ⟨rfl, ao', c', ?_, (hU0.mono (by simp)).trans hU (fun _ h => .inl h), hI.le hU0.size⟩
      rw [List.take_of_length_le (by omega)] at hH
      exact hH
set_option maxRecDepth 100000 in
set_option maxHeartbeats 1000000 in
theorem at_u64 (p g n c : Nat) (rs : List R4) (i : Nat) (hi : i < rs.length) (w : World) (hrs : ∀ r ∈ rs, Ok4 r) (h : Hold w p 191 65 1 (some ⟨g, 0, none⟩) n c (rs.flatMap cells_u64)) (hl : rs.length = n) :
    Calls Tryz.prog 317 #[V_u64 p, .int .i64 i] w fun e w' => e = .returned (kept_u64 rs[i]).agg ∧ Upd [] w w' := by
  obtain ⟨r, hx⟩ : ∃ r, r = rs[i] := ⟨_, rfl⟩
  have hr : Ok4 r := hrs r (by rw [hx]; exact List.getElem_mem _)
  have hpc := flat_piece (m := 1) (h.own.view 0 _ (fun j v hj => by rw [Nat.zero_add]; exact hj)) (fun _ => by first | rfl | exact lowV_len _ _ _) i hi
  rw [← hx] at hpc ⊢
  rw [Nat.mul_comm] at hpc
  have hgl : g < w.heap.size := h.own.lt g (by simp)
  clear hx
  go_enter Tryz.func317, Tryz.ntmps317
  simp only [V_u64]
  go_wp2
  obtain ⟨k1, u1, s1⟩ := alloc_facts w (Obj.cells #[.iface 189 (.pointer (some ⟨p, 0, none⟩)), .func (Fn.func 57) #[] #[], .func (Fn.func 58) #[] #[]] 197)
  obtain ⟨k2, u2, s2⟩ := alloc_facts (w.alloc (Obj.cells #[.iface 189 (.pointer (some ⟨p, 0, none⟩)), .func (Fn.func 57) #[] #[], .func (Fn.func 58) #[] #[]] 197)) (Obj.cells #[.int .u64 0, .int .u64 0, .int .u64 0, .int .u64 0] 67)
  generalize (w.alloc (Obj.cells #[.iface 189 (.pointer (some ⟨p, 0, none⟩)), .func (Fn.func 57) #[] #[], .func (Fn.func 58) #[] #[]] 197)).alloc (Obj.cells #[.int .u64 0, .int .u64 0, .int .u64 0, .int .u64 0] 67) = W at *
  rw [s1] at k2 s2
  have u12 := u1.trans u2 (fun _ h => .inl h)
  have hh := h.kept u12 (by simp) (by simp)
  have kk := u2.at k1 (by simp)
  have q0 : W.cell? ⟨w.heap.size, 0, none⟩ = some (.iface 189 (.pointer (some ⟨p, 0, none⟩))) := by simp [World.cell?, kk]
  have q2 : W.cell? ⟨w.heap.size, 2, none⟩ = some (.func (Fn.func 58) #[] #[]) := by simp [World.cell?, kk]
  clear k1 u1 kk u2
  have hrow := (Upd.refl [] W).drew.range (u12.range hpc hgl (by simp)) (Nat.lt_of_lt_of_le hgl u12.size) (by simp)
  have hmr := mrow_u64 p W.drew _ hh.cell
  refine wp_region_split (S := Upd [] W) [(true, 0), (true, 1), (true, 2), (true, 3), (true, 4)] [5] [6, 7] (by kernel_rfl) (by kernel_rfl) (fun _ _ d _ _ h => by cases d <;> exact h) ((Upd.refl _ _).drew) ?_
  simp only [readsAt, opersAt, Option.map_some, List.filterMap_cons, List.filterMap_nil, List.getElem?_toArray, List.getElem?_cons_succ, List.getElem?_cons_zero]
  iterate 5 (refine ⟨_, Or.inl ⟨by rfl, fun w' hS => by first | (have e0 := Upd.cell1 hS q0 (by simp); have e1 := Upd.cell1 hS q2 (by simp); first | (go_simp; done) | (go_simp; with_reducible rfl)) | (go_simp; done) | (go_simp; with_reducible rfl)⟩, ?_⟩; simp only [Act.put, List.setIfInBounds_toArray, List.set_cons_zero, List.set_cons_succ])
  intro L0 hL0
  rw [if_pos (by rfl)]
  go_simp; refine (vrow_u64 g n c i r _ hrow (Nat.lt_of_lt_of_le hgl u12.size) (by omega)).mono ?_; rintro e w1 ⟨rfl, hu1⟩
  refine hL0 _ _ ⟨hu1.ofDrew, ?_⟩
  clear hL0 L0
  try simp only [preThen]
  change wpList _ _ _ [_, _] _ _
  have m1 := hu1.ofDrew.at k2 (by simp)
  go_wp2_with (first
    | (go_at_call 58; (refine (vout_u64 r hr _).mono ?_); rintro e w2 ⟨rfl, hu2⟩; have m2 := hu2.at m1 (by simp))
    | ((with_reducible show wpList _ _ _ _ _ _); refine wpList_store_blk rfl 67 (.tmp 4) (.tmp 11) rfl (b := w.heap.size + 1) rfl m2 (cs := (kept_u64 r).cells) rfl rfl (by kernel_rfl) (by simp [R4.cells, Value.oneCell']) ?_; intro w4 hb4 hu4; simp only [Act.put]))
  refine bodyPost_ret (results_cell1 Tryz.results317 (b := w.heap.size + 1) rfl (run_loadVar_mid w4 (w.heap.size + 1) 0 67 (kept_u64 r).cells _ (rangeAt_blk hb4) Tryz.underlying67 rfl (by kernel_rfl))) rfl ⟨rfl, ?_⟩
  exact ((u12.trans hu1.ofDrew (fun _ h => .inl h)).trans hu2 (fun _ h => .inl h)).trans hu4 (fun y hy => by simp at hy; exact .inr (by omega))
theorem mapp_u128 (p : Nat) (w : World) : (method 625 233 (.pointer (some ⟨p, 0, none⟩)) "Append").run Tryz.prog w = .ok (319, .pointer (some ⟨p, 0, none⟩)) w := by kernel_rfl
theorem mrow1_u128 (k p : Nat) (w : World) : (method (k + 1) 233 (.pointer (some ⟨p, 0, none⟩)) "Row").run Tryz.prog w = (do let v ← receiverAt 233 (.val (.pointer (some ⟨p, 0, none⟩))) false (some "Row"); pure (323, v) : Sem (FuncId × Value)).run Tryz.prog w := by kernel_rfl
theorem mrow2_u128 (p : Nat) (w : World) : (receiverAt 233 (.val (.pointer (some ⟨p, 0, none⟩))) false (some "Row")).run Tryz.prog w = (loadVar 235 ⟨p, 0, none⟩).run Tryz.prog w := by kernel_rfl
theorem load_u128 (p : Nat) (w : World) (v : Value) (h : w.cell? ⟨p, 0, none⟩ = some v) : (loadVar 235 ⟨p, 0, none⟩).run Tryz.prog w = .ok v w := by go_simp
theorem mrow_u128 (p : Nat) (w : World) (v : Value) (h : w.cell? ⟨p, 0, none⟩ = some v) : (method 625 233 (.pointer (some ⟨p, 0, none⟩)) "Row").run Tryz.prog w = .ok (323, v) w := by
  rw [show 625 = (625 - 1) + 1 from rfl, mrow1_u128]
  simp only [Sem.run_bind, mrow2_u128, load_u128 p w v h, Result.andThen_ok, Sem.run_pure]
set_option maxRecDepth 100000 in
set_option maxHeartbeats 1000000 in
theorem add_u128 (p : Nat) (ar : Option Addr) (n c : Nat) (rs : List R4) (ao : Option Addr) (m cp : Nat) (xs : List Value) (w : World) (hr : View w 4 ar n (rs.flatMap R4.cells)) (hc : Hold w p 235 143 2 ao m cp xs)
    (hap : 0 < n → Apart ar p ao) (hn : n ≤ 1000) (hm : m ≤ 100000) :
    Calls Tryz.prog 327 #[V_u128 p, .slice ar n c] w fun e w' => e = .returned (.tuple #[]) ∧ Grew w w' p 235 143 2 ao (m + n) (xs ++ rs.flatMap cells_u128) := by
  have hrl : rs.length = n := by have := hr.len; rw [flatMap_len _ 4 R4.cells_len] at this; omega
  have hpw := hc.lt
  go_enter Tryz.func327, Tryz.ntmps327
  simp only [V_u128]
  go_wp2
  have hcB : (w.alloc (Obj.cells #[.iface 233 (.pointer (some ⟨p, 0, none⟩)), .func (Fn.func 45) #[] #[], .func (Fn.func 76) #[] #[]] 240)).heap[w.heap.size]? = some (Obj.cells #[.iface 233 (.pointer (some ⟨p, 0, none⟩)), .func (Fn.func 45) #[] #[], .func (Fn.func 76) #[] #[]] 240) := heap_alloc_new _ _
  have hU0 := (Upd.refl [] w).alloc (Obj.cells #[.iface 233 (.pointer (some ⟨p, 0, none⟩)), .func (Fn.func 45) #[] #[], .func (Fn.func 76) #[] #[]] 240)
  have hBn : w.heap.size ∉ p :: bk ao := fun h => by
    rcases List.mem_cons.1 h with h | h
    · omega
    · have := hc.bk_lt _ h; omega
  have hBl := lt_of_block hcB
  generalize w.alloc (Obj.cells #[.iface 233 (.pointer (some ⟨p, 0, none⟩)), .func (Fn.func 45) #[] #[], .func (Fn.func 76) #[] #[]] 240) = W0 at *
  have hc0 := hc.kept hU0 (by simp) (by simp)
  have hr0 := hr.upd hU0 (by simp)
  go_loopw [8] (fun i wr => ∃ (k : Nat) (ao' : Option Addr) (c' : Nat), k ≤ n ∧ i = .int .i64 k ∧ Hold wr p 235 143 2 ao' (m + k) c' (xs ++ (rs.take k).flatMap cells_u128) ∧ Upd (p :: bk ao) W0 wr ∧ In (bk ao) W0.heap.size ao')
    (fun i _ => n - (intOf i).toNat)
  case atStart => exact ⟨0, ao, cp, Nat.zero_le _, rfl, by simpa using hc0, Upd.refl _ _, In.self (fun _ h => h)⟩
  case round =>
    obtain ⟨k, ao', c', hk, rfl, hH, hU, hI⟩ := hrel
    by_cases hlt : k < n
    · have hk0 : ((k : Int) < n) := by omega
      obtain ⟨b, o, rfl, hrr, hbb⟩ := hr0.at_ (by omega)
      have hbn : b ∉ p :: bk ao := (hap (by omega)).not b (by simp)
      obtain ⟨r, hx⟩ : ∃ r, r = rs[k]'(by omega) := ⟨_, rfl⟩
      have hcell : ∀ j, j < 4 → wr.cell? ⟨b, o + k * 4 + j, none⟩ = r.cells[j]? := fun j hj => by
        rw [hU.cell hbb hbn, Nat.add_assoc]
        have h1 := rows_get rs k (by omega) j hj
        rw [← hx] at h1
        obtain ⟨u, hu⟩ : ∃ u, r.cells[j]? = some u := ⟨r.cells[j]'(by rw [R4.cells_len]; omega), by simp⟩
        rw [hu]
        exact hrr (k * 4 + j) u (h1.trans hu)
      have d0 := hcell 0 (by omega)
      have d1 := hcell 1 (by omega)
      have d2 := hcell 2 (by omega)
      have d3 := hcell 3 (by omega)
      have HX := Lib.hid hx
      clear hx hcell
      obtain ⟨ra, rb, rc, rd⟩ := r
      simp only [R4.cells, Nat.add_zero, List.getElem?_cons_zero, List.getElem?_cons_succ] at d0 d1 d2 d3
      have hB := hU.at hcB hBn
      have e0 : wr.cell? ⟨w.heap.size, 0, none⟩ = some (.iface 233 (.pointer (some ⟨p, 0, none⟩))) := by simp [World.cell?, hB]
      have e1 : wr.cell? ⟨w.heap.size, 1, none⟩ = some (.func (Fn.func 45) #[] #[]) := by simp [World.cell?, hB]
      have hBw := lt_of_block hB
      go_wp2
      have n0 := World.cell?_alloc_at (w := wr) #[Value.int .u64 ra, .int .u64 rb, .int .u64 rc, .int .u64 rd] 67 wr.heap.size 0 rfl
      have n1 := World.cell?_alloc_at (w := wr) #[Value.int .u64 ra, .int .u64 rb, .int .u64 rc, .int .u64 rd] 67 wr.heap.size 1 rfl
      have n2 := World.cell?_alloc_at (w := wr) #[Value.int .u64 ra, .int .u64 rb, .int .u64 rc, .int .u64 rd] 67 wr.heap.size 2 rfl
      have n3 := World.cell?_alloc_at (w := wr) #[Value.int .u64 ra, .int .u64 rb, .int .u64 rc, .int .u64 rd] 67 wr.heap.size 3 rfl
      have hUn := (Upd.refl [] wr).alloc (Obj.cells #[Value.int .u64 ra, .int .u64 rb, .int .u64 rc, .int .u64 rd] 67)
      generalize wr.alloc (Obj.cells #[Value.int .u64 ra, .int .u64 rb, .int .u64 rc, .int .u64 rd] 67) = W at *
      have g0 := hUn.cell1 e0 (by simp)
      have g1 := hUn.cell1 e1 (by simp)
      simp only [List.getElem?_toArray, List.getElem?_cons_zero, List.getElem?_cons_succ] at n0 n1 n2 n3
      have hHW := hH.kept hUn (by simp) (by simp)
      have hmeth := mapp_u128 p
      refine wp_region_split (S := Upd [] W) [(true, 0), (true, 1), (true, 2), (true, 3), (true, 4), (true, 6), (true, 7)] [5] [8] (by kernel_rfl) (by kernel_rfl) (fun _ _ d _ _ h => by cases d <;> exact h) ((Upd.refl _ _).drew) ?_
      simp only [readsAt, opersAt, Option.map_some, List.filterMap_cons, List.filterMap_nil, List.getElem?_toArray, List.getElem?_cons_succ, List.getElem?_cons_zero]
      iterate 7 (refine ⟨_, Or.inl ⟨by rfl, fun w' hS => by first | (have q0 := Upd.cell1 hS g0 (by simp); have q1 := Upd.cell1 hS g1 (by simp); have q2 := Upd.cell1 hS n0 (by simp); have q3 := Upd.cell1 hS n1 (by simp); have q4 := Upd.cell1 hS n2 (by simp); have q5 := Upd.cell1 hS n3 (by simp); first | (go_simp; done) | (go_simp; with_reducible rfl)) | (go_simp; done) | (go_simp; with_reducible rfl)⟩, ?_⟩; simp only [Act.put, List.setIfInBounds_toArray, List.set_cons_zero, List.set_cons_succ])
      intro L0 hL0
      rw [if_pos (by rfl)]
      go_simp; refine (vin_u128 ⟨ra, rb, rc, rd⟩ _).mono ?_; rintro e w1 ⟨rfl, hu1⟩
      refine hL0 _ _ ⟨hu1.ofDrew, ?_⟩
      clear hL0 L0
      try simp only [preThen]
      change wpList _ _ _ [_] _ _
      have hH1 := hHW.kept hu1.ofDrew (by simp) (by simp)
      have hUw := (hUn.trans hu1.ofDrew (fun _ h => .inl h))
      go_wp2_with (go_at_call 319; (with_reducible refine (vapp_u128 p _ _ _ _ _ _ hH1 (by omega)).mono ?_); rintro e w2 ⟨rfl, ao2, c2, hH2, hU2, hI2⟩)
      have hUx : Upd (p :: bk ao) W0 w2 := (hU.trans (hUw.mono (by simp) : Upd (p :: bk ao) wr w1) (fun _ h => .inl h)).trans hU2 (fun y hy => by
        rcases List.mem_cons.1 hy with h | h
        · exact .inl (by rw [h]; exact List.mem_cons_self)
        · rcases hI y h with h' | h'
          · exact .inl (List.mem_cons_of_mem _ h')
          · exact .inr h')
      have hIx : In (bk ao) W0.heap.size ao2 := hI.step hI2 (Nat.le_trans hU.size hUw.size)
      have hHx : Hold w2 p 235 143 2 ao2 (m + (k + 1)) c2 (xs ++ (rs.take (k + 1)).flatMap cells_u128) := by
        rw [flatMap_take_succ _ _ _ (by omega), ← HX.out, ← List.append_assoc]
        exact hH2
      clear hH2 hU2 hI2 hH1 hHW
      go_roundw
      case rel => exact ⟨k + 1, ao2, c2, by omega, by go_num, hHx, hUx, hIx⟩
      case measure => simp [intOf]; omega
    · have hk0 : n ≤ k := by omega
      obtain rfl : k = n := by omega
      go_wp2
      go_end0
      refine ⟨rfl, ao', c', ?_, (hU0.mono (by simp)).trans hU (fun _ h => .inl h), hI.le hU0.size⟩
      rw [List.take_of_length_le (by omega)] at hH
      exact hH
set_option maxRecDepth 100000 in
set_option maxHeartbeats 1000000 in
theorem at_u128 (p g n c : Nat) (rs : List R4) (i : Nat) (hi : i < rs.length) (w : World) (hrs : ∀ r ∈ rs, Ok4 r) (h : Hold w p 235 143 2 (some ⟨g, 0, none⟩) n c (rs.flatMap cells_u128)) (hl : rs.length = n) :
    Calls Tryz.prog 329 #[V_u128 p, .int .i64 i] w fun e w' => e = .returned (kept_u128 rs[i]).agg ∧ Upd [] w w' := by
  obtain ⟨r, hx⟩ : ∃ r, r = rs[i] := ⟨_, rfl⟩
  have hr : Ok4 r := hrs r (by rw [hx]; exact List.getElem_mem _)
  have hpc := flat_piece (m := 2) (h.own.view 0 _ (fun j v hj => by rw [Nat.zero_add]; exact hj)) (fun _ => by first | rfl | exact lowV_len _ _ _) i hi
  rw [← hx] at hpc ⊢
  rw [Nat.mul_comm] at hpc
  have hgl : g < w.heap.size := h.own.lt g (by simp)
  clear hx
  go_enter Tryz.func329, Tryz.ntmps329
  simp only [V_u128]
  go_wp2
  obtain ⟨k1, u1, s1⟩ := alloc_facts w (Obj.cells #[.iface 233 (.pointer (some ⟨p, 0, none⟩)), .func (Fn.func 45) #[] #[], .func (Fn.func 76) #[] #[]] 240)
  obtain ⟨k2, u2, s2⟩ := alloc_facts (w.alloc (Obj.cells #[.iface 233 (.pointer (some ⟨p, 0, none⟩)), .func (Fn.func 45) #[] #[], .func (Fn.func 76) #[] #[]] 240)) (Obj.cells #[.int .u64 0, .int .u64 0, .int .u64 0, .int .u64 0] 67)
  generalize (w.alloc (Obj.cells #[.iface 233 (.pointer (some ⟨p, 0, none⟩)), .func (Fn.func 45) #[] #[], .func (Fn.func 76) #[] #[]] 240)).alloc (Obj.cells #[.int .u64 0, .int .u64 0, .int .u64 0, .int .u64 0] 67) = W at *
  rw [s1] at k2 s2
  have u12 := u1.trans u2 (fun _ h => .inl h)
  have hh := h.kept u12 (by simp) (by simp)
  have kk := u2.at k1 (by simp)
  have q0 : W.cell? ⟨w.heap.size, 0, none⟩ = some (.iface 233 (.pointer (some ⟨p, 0, none⟩))) := by simp [World.cell?, kk]
  have q2 : W.cell? ⟨w.heap.size, 2, none⟩ = some (.func (Fn.func 76) #[] #[]) := by simp [World.cell?, kk]
  clear k1 u1 kk u2
  have hrow := (Upd.refl [] W).drew.range (u12.range hpc hgl (by simp)) (Nat.lt_of_lt_of_le hgl u12.size) (by simp)
  have hmr := mrow_u128 p W.drew _ hh.cell
  refine wp_region_split (S := Upd [] W) [(true, 0), (true, 1), (true, 2), (true, 3), (true, 4)] [5] [6, 7] (by kernel_rfl) (by kernel_rfl) (fun _ _ d _ _ h => by cases d <;> exact h) ((Upd.refl _ _).drew) ?_
  simp only [readsAt, opersAt, Option.map_some, List.filterMap_cons, List.filterMap_nil, List.getElem?_toArray, List.getElem?_cons_succ, List.getElem?_cons_zero]
  iterate 5 (refine ⟨_, Or.inl ⟨by rfl, fun w' hS => by first | (have e0 := Upd.cell1 hS q0 (by simp); have e1 := Upd.cell1 hS q2 (by simp); first | (go_simp; done) | (go_simp; with_reducible rfl)) | (go_simp; done) | (go_simp; with_reducible rfl)⟩, ?_⟩; simp only [Act.put, List.setIfInBounds_toArray, List.set_cons_zero, List.set_cons_succ])
  intro L0 hL0
  rw [if_pos (by rfl)]
  go_simp; refine (vrow_u128 g n c i r _ hrow (Nat.lt_of_lt_of_le hgl u12.size) (by omega)).mono ?_; rintro e w1 ⟨rfl, hu1⟩
  refine hL0 _ _ ⟨hu1.ofDrew, ?_⟩
  clear hL0 L0
  try simp only [preThen]
  change wpList _ _ _ [_, _] _ _
  have m1 := hu1.ofDrew.at k2 (by simp)
  go_wp2_with (first
    | (go_at_call 76; (refine (vout_u128 r hr _).mono ?_); rintro e w2 ⟨rfl, hu2⟩; have m2 := hu2.at m1 (by simp))
    | ((with_reducible show wpList _ _ _ _ _ _); refine wpList_store_blk rfl 67 (.tmp 4) (.tmp 11) rfl (b := w.heap.size + 1) rfl m2 (cs := (kept_u128 r).cells) rfl rfl (by kernel_rfl) (by simp [R4.cells, Value.oneCell']) ?_; intro w4 hb4 hu4; simp only [Act.put]))
  refine bodyPost_ret (results_cell1 Tryz.results329 (b := w.heap.size + 1) rfl (run_loadVar_mid w4 (w.heap.size + 1) 0 67 (kept_u128 r).cells _ (rangeAt_blk hb4) Tryz.underlying67 rfl (by kernel_rfl))) rfl ⟨rfl, ?_⟩
  exact ((u12.trans hu1.ofDrew (fun _ h => .inl h)).trans hu2 (fun _ h => .inl h)).trans hu4 (fun y hy => by simp at hy; exact .inr (by omega))
theorem mapp_u256 (p : Nat) (w : World) : (method 625 241 (.pointer (some ⟨p, 0, none⟩)) "Append").run Tryz.prog w = .ok (330, .pointer (some ⟨p, 0, none⟩)) w := by kernel_rfl
theorem mrow1_u256 (k p : Nat) (w : World) : (method (k + 1) 241 (.pointer (some ⟨p, 0, none⟩)) "Row").run Tryz.prog w = (do let v ← receiverAt 241 (.val (.pointer (some ⟨p, 0, none⟩))) false (some "Row"); pure (334, v) : Sem (FuncId × Value)).run Tryz.prog w := by kernel_rfl
theorem mrow2_u256 (p : Nat) (w : World) : (receiverAt 241 (.val (.pointer (some ⟨p, 0, none⟩))) false (some "Row")).run Tryz.prog w = (loadVar 243 ⟨p, 0, none⟩).run Tryz.prog w := by kernel_rfl
theorem load_u256 (p : Nat) (w : World) (v : Value) (h : w.cell? ⟨p, 0, none⟩ = some v) : (loadVar 243 ⟨p, 0, none⟩).run Tryz.prog w = .ok v w := by go_simp
theorem mrow_u256 (p : Nat) (w : World) (v : Value) (h : w.cell? ⟨p, 0, none⟩ = some v) : (method 625 241 (.pointer (some ⟨p, 0, none⟩)) "Row").run Tryz.prog w = .ok (334, v) w := by
  rw [show 625 = (625 - 1) + 1 from rfl, mrow1_u256]
  simp only [Sem.run_bind, mrow2_u256, load_u256 p w v h, Result.andThen_ok, Sem.run_pure]
set_option maxRecDepth 100000 in
set_option maxHeartbeats 1000000 in
theorem add_u256 (p : Nat) (ar : Option Addr) (n c : Nat) (rs : List R4) (ao : Option Addr) (m cp : Nat) (xs : List Value) (w : World) (hr : View w 4 ar n (rs.flatMap R4.cells)) (hc : Hold w p 243 244 4 ao m cp xs)
    (hap : 0 < n → Apart ar p ao) (hn : n ≤ 1000) (hm : m ≤ 100000) :
    Calls Tryz.prog 338 #[V_u256 p, .slice ar n c] w fun e w' => e = .returned (.tuple #[]) ∧ Grew w w' p 243 244 4 ao (m + n) (xs ++ rs.flatMap cells_u256) := by
  have hrl : rs.length = n := by have := hr.len; rw [flatMap_len _ 4 R4.cells_len] at this; omega
  have hpw := hc.lt
  go_enter Tryz.func338, Tryz.ntmps338
  simp only [V_u256]
  go_wp2
  have hcB : (w.alloc (Obj.cells #[.iface 241 (.pointer (some ⟨p, 0, none⟩)), .func (Fn.func 77) #[] #[], .func (Fn.func 78) #[] #[]] 250)).heap[w.heap.size]? = some (Obj.cells #[.iface 241 (.pointer (some ⟨p, 0, none⟩)), .func (Fn.func 77) #[] #[], .func (Fn.func 78) #[] #[]] 250) := heap_alloc_new _ _
  have hU0 := (Upd.refl [] w).alloc (Obj.cells #[.iface 241 (.pointer (some ⟨p, 0, none⟩)), .func (Fn.func 77) #[] #[], .func (Fn.func 78) #[] #[]] 250)
  have hBn : w.heap.size ∉ p :: bk ao := fun h => by
    rcases List.mem_cons.1 h with h | h
    · omega
    · have := hc.bk_lt _ h; omega
  have hBl := lt_of_block hcB
  generalize w.alloc (Obj.cells #[.iface 241 (.pointer (some ⟨p, 0, none⟩)), .func (Fn.func 77) #[] #[], .func (Fn.func 78) #[] #[]] 250) = W0 at *
  have hc0 := hc.kept hU0 (by simp) (by simp)
  have hr0 := hr.upd hU0 (by simp)
  go_loopw [8] (fun i wr => ∃ (k : Nat) (ao' : Option Addr) (c' : Nat), k ≤ n ∧ i = .int .i64 k ∧ Hold wr p 243 244 4 ao' (m + k) c' (xs ++ (rs.take k).flatMap cells_u256) ∧ Upd (p :: bk ao) W0 wr ∧ In (bk ao) W0.heap.size ao')
    (fun i _ => n - (intOf i).toNat)
  case atStart => exact ⟨0, ao, cp, Nat.zero_le _, rfl, by simpa using hc0, Upd.refl _ _, In.self (fun _ h => h)⟩
  case round =>
    obtain ⟨k, ao', c', hk, rfl, hH, hU, hI⟩ := hrel
    by_cases hlt : k < n
    · have hk0 : ((k : Int) < n) := by omega
      obtain ⟨b, o, rfl, hrr, hbb⟩ := hr0.at_ (by omega)
      have hbn : b ∉ p :: bk ao := (hap (by omega)).not b (by simp)
      obtain ⟨r, hx⟩ : ∃ r, r = rs[k]'(by omega) := ⟨_, rfl⟩
      have hcell : ∀ j, j < 4 → wr.cell? ⟨b, o + k * 4 + j, none⟩ = r.cells[j]? := fun j hj => by
        rw [hU.cell hbb hbn, Nat.add_assoc]
        have h1 := rows_get rs k (by omega) j hj
        rw [← hx] at h1
        obtain ⟨u, hu⟩ : ∃ u, r.cells[j]? = some u := ⟨r.cells[j]'(by rw [R4.cells_len]; omega), by simp⟩
        rw [hu]
        exact hrr (k * 4 + j) u (h1.trans hu)
      have d0 := hcell 0 (by omega)
      have d1 := hcell 1 (by omega)
      have d2 := hcell 2 (by omega)
      have d3 := hcell 3 (by omega)
      have HX := Lib.hid hx
      clear hx hcell
      obtain ⟨ra, rb, rc, rd⟩ := r
      simp only [R4.cells, Nat.add_zero, List.getElem?_cons_zero, List.getElem?_cons_succ] at d0 d1 d2 d3
      have hB := hU.at hcB hBn
      have e0 : wr.cell? ⟨w.heap.size, 0, none⟩ = some (.iface 241 (.pointer (some ⟨p, 0, none⟩))) := by simp [World.cell?, hB]
      have e1 : wr.cell? ⟨w.heap.size, 1, none⟩ = some (.func (Fn.func 77) #[] #[]) := by simp [World.cell?, hB]
      have hBw := lt_of_block hB
      go_wp2
      have n0 := World.cell?_alloc_at (w := wr) #[Value.int .u64 ra, .int .u64 rb, .int .u64 rc, .int .u64 rd] 67 wr.heap.size 0 rfl
      have n1 := World.cell?_alloc_at (w := wr) #[Value.int .u64 ra, .int .u64 rb, .int .u64 rc, .int .u64 rd] 67 wr.heap.size 1 rfl
      have n2 := World.cell?_alloc_at (w := wr) #[Value.int .u64 ra, .int .u64 rb, .int .u64 rc, .int .u64 rd] 67 wr.heap.size 2 rfl
      have n3 := World.cell?_alloc_at (w := wr) #[Value.int .u64 ra, .int .u64 rb, .int .u64 rc, .int .u64 rd] 67 wr.heap.size 3 rfl
      have hUn := (Upd.refl [] wr).alloc (Obj.cells #[Value.int .u64 ra, .int .u64 rb, .int .u64 rc, .int .u64 rd] 67)
      generalize wr.alloc (Obj.cells #[Value.int .u64 ra, .int .u64 rb, .int .u64 rc, .int .u64 rd] 67) = W at *
      have g0 := hUn.cell1 e0 (by simp)
      have g1 := hUn.cell1 e1 (by simp)
      simp only [List.getElem?_toArray, List.getElem?_cons_zero, List.getElem?_cons_succ] at n0 n1 n2 n3
      have hHW := hH.kept hUn (by simp) (by simp)
      have hmeth := mapp_u256 p
      refine wp_region_split (S := Upd [] W) [(true, 0), (true, 1), (true, 2), (true, 3), (true, 4), (true, 6), (true, 7)] [5] [8] (by kernel_rfl) (by kernel_rfl) (fun _ _ d _ _ h => by cases d <;> exact h) ((Upd.refl _ _).drew) ?_
      simp only [readsAt, opersAt, Option.map_some, List.filterMap_cons, List.filterMap_nil, List.getElem?_toArray, List.getElem?_cons_succ, List.getElem?_cons_zero]
      iterate 7 (refine ⟨_, Or.inl ⟨by rfl, fun w' hS => by first | (have q0 := Upd.cell1 hS g0 (by simp); have q1 := Upd.cell1 hS g1 (by simp); have q2 := Upd.cell1 hS n0 (by simp); have q3 := Upd.cell1 hS n1 (by simp); have q4 := Upd.cell1 hS n2 (by simp); have q5 := Upd.cell1 hS n3 (by simp); first | (go_simp; done) | (go_simp; with_reducible rfl)) | (go_simp; done) | (go_simp; with_reducible rfl)⟩, ?_⟩; simp only [Act.put, List.setIfInBounds_toArray, List.set_cons_zero, List.set_cons_succ])
      intro L0 hL0
      rw [if_pos (by rfl)]
      go_simp; refine (vin_u256 ⟨ra, rb, rc, rd⟩ _).mono ?_; rintro e w1 ⟨rfl, hu1⟩
      refine hL0 _ _ ⟨hu1.ofDrew, ?_⟩
      clear hL0 L0
      try simp only [preThen]
      change wpList _ _ _ [_] _ _
      have hH1 := hHW.kept hu1.ofDrew (by simp) (by simp)
      have hUw := (hUn.trans hu1.ofDrew (fun _ h => .inl h))
      go_wp2_with (go_at_call 330; (with_reducible refine (vapp_u256 p _ _ _ _ _ _ hH1 (by omega)).mono ?_); rintro e w2 ⟨rfl, ao2, c2, hH2, hU2, hI2⟩)
      have hUx : Upd (p :: bk ao) W0 w2 := (hU.trans (hUw.mono (by simp) : Upd (p :: bk ao) wr w1) (fun _ h => .inl h)).trans hU2 (fun y hy => by
        rcases List.mem_cons.1 hy with h | h
        · exact .inl (by rw [h]; exact List.mem_cons_self)
        · rcases hI y h with h' | h'
          · exact .inl (List.mem_cons_of_mem _ h')
          · exact .inr h')
      have hIx : In (bk ao) W0.heap.size ao2 := hI.step hI2 (Nat.le_trans hU.size hUw.size)
      have hHx : Hold w2 p 243 244 4 ao2 (m + (k + 1)) c2 (xs ++ (rs.take (k + 1)).flatMap cells_u256) := by
        rw [flatMap_take_succ _ _ _ (by omega), ← HX.out, ← List.append_assoc]
        exact hH2
      clear hH2 hU2 hI2 hH1 hHW
      go_roundw
      case rel => exact ⟨k + 1, ao2, c2, by omega, by go_num, hHx, hUx, hIx⟩
      case measure => simp [intOf]; omega
    · have hk0 : n ≤ k := by omega
      obtain rfl : k = n := by omega
      go_wp2
      go_end0
      refine ⟨rfl, ao', c', ?_, (hU0.mono (by simp)).trans hU (fun _ h => .inl h), hI.le hU0.size⟩
      rw [List.take_of_length_le (by omega)] at hH
      exact hH
set_option maxRecDepth 100000 in
set_option maxHeartbeats 1000000 in
theorem at_u256 (p g n c : Nat) (rs : List R4) (i : Nat) (hi : i < rs.length) (w : World) (hrs : ∀ r ∈ rs, Ok4 r) (h : Hold w p 243 244 4 (some ⟨g, 0, none⟩) n c (rs.flatMap cells_u256)) (hl : rs.length = n) :
    Calls Tryz.prog 340 #[V_u256 p, .int .i64 i] w fun e w' => e = .returned (kept_u256 rs[i]).agg ∧ Upd [] w w' := by
  obtain ⟨r, hx⟩ : ∃ r, r = rs[i] := ⟨_, rfl⟩
  have hr : Ok4 r := hrs r (by rw [hx]; exact List.getElem_mem _)
  have hpc := flat_piece (m := 4) (h.own.view 0 _ (fun j v hj => by rw [Nat.zero_add]; exact hj)) (fun _ => by first | rfl | exact lowV_len _ _ _) i hi
  rw [← hx] at hpc ⊢
  rw [Nat.mul_comm] at hpc
  have hgl : g < w.heap.size := h.own.lt g (by simp)
  clear hx
  go_enter Tryz.func340, Tryz.ntmps340
  simp only [V_u256]
  go_wp2
  obtain ⟨k1, u1, s1⟩ := alloc_facts w (Obj.cells #[.iface 241 (.pointer (some ⟨p, 0, none⟩)), .func (Fn.func 77) #[] #[], .func (Fn.func 78) #[] #[]] 250)
  obtain ⟨k2, u2, s2⟩ := alloc_facts (w.alloc (Obj.cells #[.iface 241 (.pointer (some ⟨p, 0, none⟩)), .func (Fn.func 77) #[] #[], .func (Fn.func 78) #[] #[]] 250)) (Obj.cells #[.int .u64 0, .int .u64 0, .int .u64 0, .int .u64 0] 67)
  generalize (w.alloc (Obj.cells #[.iface 241 (.pointer (some ⟨p, 0, none⟩)), .func (Fn.func 77) #[] #[], .func (Fn.func 78) #[] #[]] 250)).alloc (Obj.cells #[.int .u64 0, .int .u64 0, .int .u64 0, .int .u64 0] 67) = W at *
  rw [s1] at k2 s2
  have u12 := u1.trans u2 (fun _ h => .inl h)
  have hh := h.kept u12 (by simp) (by simp)
  have kk := u2.at k1 (by simp)
  have q0 : W.cell? ⟨w.heap.size, 0, none⟩ = some (.iface 241 (.pointer (some ⟨p, 0, none⟩))) := by simp [World.cell?, kk]
  have q2 : W.cell? ⟨w.heap.size, 2, none⟩ = some (.func (Fn.func 78) #[] #[]) := by simp [World.cell?, kk]
  clear k1 u1 kk u2
  have hrow := (Upd.refl [] W).drew.range (u12.range hpc hgl (by simp)) (Nat.lt_of_lt_of_le hgl u12.size) (by simp)
  have hmr := mrow_u256 p W.drew _ hh.cell
  refine wp_region_split (S := Upd [] W) [(true, 0), (true, 1), (true, 2), (true, 3), (true, 4)] [5] [6, 7] (by kernel_rfl) (by kernel_rfl) (fun _ _ d _ _ h => by cases d <;> exact h) ((Upd.refl _ _).drew) ?_
  simp only [readsAt, opersAt, Option.map_some, List.filterMap_cons, List.filterMap_nil, List.getElem?_toArray, List.getElem?_cons_succ, List.getElem?_cons_zero]
  iterate 5 (refine ⟨_, Or.inl ⟨by rfl, fun w' hS => by first | (have e0 := Upd.cell1 hS q0 (by simp); have e1 := Upd.cell1 hS q2 (by simp); first | (go_simp; done) | (go_simp; with_reducible rfl)) | (go_simp; done) | (go_simp; with_reducible rfl)⟩, ?_⟩; simp only [Act.put, List.setIfInBounds_toArray, List.set_cons_zero, List.set_cons_succ])
  intro L0 hL0
  rw [if_pos (by rfl)]
  go_simp; refine (vrow_u256 g n c i r _ hrow (Nat.lt_of_lt_of_le hgl u12.size) (by omega)).mono ?_; rintro e w1 ⟨rfl, hu1⟩
  refine hL0 _ _ ⟨hu1.ofDrew, ?_⟩
  clear hL0 L0
  try simp only [preThen]
  change wpList _ _ _ [_, _] _ _
  have m1 := hu1.ofDrew.at k2 (by simp)
  go_wp2_with (first
    | (go_at_call 78; (refine (vout_u256 r hr _).mono ?_); rintro e w2 ⟨rfl, hu2⟩; have m2 := hu2.at m1 (by simp))
    | ((with_reducible show wpList _ _ _ _ _ _); refine wpList_store_blk rfl 67 (.tmp 4) (.tmp 11) rfl (b := w.heap.size + 1) rfl m2 (cs := (kept_u256 r).cells) rfl rfl (by kernel_rfl) (by simp [R4.cells, Value.oneCell']) ?_; intro w4 hb4 hu4; simp only [Act.put]))
  refine bodyPost_ret (results_cell1 Tryz.results340 (b := w.heap.size + 1) rfl (run_loadVar_mid w4 (w.heap.size + 1) 0 67 (kept_u256 r).cells _ (rangeAt_blk hb4) Tryz.underlying67 rfl (by kernel_rfl))) rfl ⟨rfl, ?_⟩
  exact ((u12.trans hu1.ofDrew (fun _ h => .inl h)).trans hu2 (fun _ h => .inl h)).trans hu4 (fun y hy => by simp at hy; exact .inr (by omega))
end Go.Proofs.YtfbohkbpgfnceaaGreatDoor
