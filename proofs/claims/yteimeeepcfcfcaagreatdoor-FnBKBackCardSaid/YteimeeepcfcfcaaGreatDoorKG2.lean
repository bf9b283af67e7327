/- numbersOf.add and .at of six kinds. -/
import Derived.Test.YteimeeepcfcfcaaGreatDoorKF
namespace Go.Proofs.YteimeeepcfcfcaaGreatDoor
set_option maxRecDepth 100000
set_option maxHeartbeats 2000000
set_option linter.unusedVariables false
set_option linter.unusedSimpArgs false
open Go Go.RowKit
theorem mapp_u8 (p : Nat) (w : World) : (method 634 171 (.pointer (some ⟨p, 0, none⟩)) "Append").run Tryz.prog w = .ok (284, .pointer (some ⟨p, 0, none⟩)) w := by kernel_rfl
theorem mrow1_u8 (k p : Nat) (w : World) : (method (k + 1) 171 (.pointer (some ⟨p, 0, none⟩)) "Row").run Tryz.prog w = (do let v ← receiverAt 171 (.val (.pointer (some ⟨p, 0, none⟩))) false (some "Row"); pure (288, v) : Sem (FuncId × Value)).run Tryz.prog w := by kernel_rfl
theorem mrow2_u8 (p : Nat) (w : World) : (receiverAt 171 (.val (.pointer (some ⟨p, 0, none⟩))) false (some "Row")).run Tryz.prog w = (loadVar 172 ⟨p, 0, none⟩).run Tryz.prog w := by kernel_rfl
theorem load_u8 (p : Nat) (w : World) (v : Value) (h : w.cell? ⟨p, 0, none⟩ = some v) : (loadVar 172 ⟨p, 0, none⟩).run Tryz.prog w = .ok v w := by go_simp
theorem mrow_u8 (p : Nat) (w : World) (v : Value) (h : w.cell? ⟨p, 0, none⟩ = some v) : (method 634 171 (.pointer (some ⟨p, 0, none⟩)) "Row").run Tryz.prog w = .ok (288, v) w := by
  rw [show 634 = (634 - 1) + 1 from rfl, mrow1_u8]
  simp only [Sem.run_bind, mrow2_u8, load_u8 p w v h, Result.andThen_ok, Sem.run_pure]
theorem add_u8 (p : Nat) (ar : Option Addr) (n c : Nat) (rs : List R4) (ao : Option Addr) (m cp : Nat) (xs : List Value) (w : World) (hr : View w 4 ar n (rs.flatMap R4.cells)) (hc : Hold w p 172 5 1 ao m cp xs)
    (hap : 0 < n → Apart ar p ao) (hn : n ≤ 1000) (hm : m ≤ 100000) :
    Calls Tryz.prog 292 #[V_u8 p, .slice ar n c] w fun e w' => e = .returned (.tuple #[]) ∧ Grew w w' p 172 5 1 ao (m + n) (xs ++ rs.flatMap cells_u8) := by
  have hrl : rs.length = n := by have := hr.len; rw [flatMap_len _ 4 R4.cells_len] at this; omega
  have hpw := hc.lt
  go_enter Tryz.func292, Tryz.ntmps292
  simp only [V_u8]
  go_wp2
  have hcB : (w.alloc (Obj.cells #[.iface 171 (.pointer (some ⟨p, 0, none⟩)), .func (Fn.func 60) #[] #[], .func (Fn.func 61) #[] #[]] 178)).heap[w.heap.size]? = some (Obj.cells #[.iface 171 (.pointer (some ⟨p, 0, none⟩)), .func (Fn.func 60) #[] #[], .func (Fn.func 61) #[] #[]] 178) := heap_alloc_new _ _
  have hU0 := (Upd.refl [] w).alloc (Obj.cells #[.iface 171 (.pointer (some ⟨p, 0, none⟩)), .func (Fn.func 60) #[] #[], .func (Fn.func 61) #[] #[]] 178)
  have hBn : w.heap.size ∉ p :: bk ao := fun h => by
    rcases List.mem_cons.1 h with h | h
    · omega
    · have := hc.bk_lt _ h; omega
  have hBl := lt_of_block hcB
  generalize w.alloc (Obj.cells #[.iface 171 (.pointer (some ⟨p, 0, none⟩)), .func (Fn.func 60) #[] #[], .func (Fn.func 61) #[] #[]] 178) = W0 at *
  have hc0 := hc.kept hU0 (by simp) (by simp)
  have hr0 := hr.upd hU0 (by simp)
  go_loopw [8] (fun i wr => ∃ (k : Nat) (ao' : Option Addr) (c' : Nat), k ≤ n ∧ i = .int .i64 k ∧ Hold wr p 172 5 1 ao' (m + k) c' (xs ++ (rs.take k).flatMap cells_u8) ∧ Upd (p :: bk ao) W0 wr ∧ In (bk ao) W0.heap.size ao')
    (fun i _ => n - (intOf i).toNat)
  case atStart => exact ⟨0, ao, cp, Nat.zero_le _, rfl, by simpa using hc0, Upd.refl _ _, In.self (fun _ h => h)⟩
  case round =>
    obtain ⟨k, ao', c', hk, rfl, hH, hU, hI⟩ := hrel
    by_cases hlt : k < n
    · have hk0 : ((k : Int) < n) := by omega
      obtain ⟨b, o, rfl, hrr, hbb⟩ := hr0.at_ (by omega)
      have hbn : b ∉ p :: bk ao := (hap (by omega)).not b (by simp)
      obtain ⟨r, hx⟩ : ∃ r, r = rs[k]'(by omega) := ⟨_, rfl⟩
      have hcell : ∀ j, j < 4 → wr.cell? ⟨b, o + k * 4 + j, none⟩ = r.cells[j]? := fun j hj => by
        rw [hU.cell hbb hbn, Nat.add_assoc]
        have h1 := rows_get rs k (by omega) j hj
        rw [← hx] at h1
        obtain ⟨u, hu⟩ : ∃ u, r.cells[j]? = some u := ⟨r.cells[j]'(by rw [R4.cells_len]; omega), by simp⟩
        rw [hu]
        exact hrr (k * 4 + j) u (h1.trans hu)
      have d0 := hcell 0 (by omega)
      have d1 := hcell 1 (by omega)
      have d2 := hcell 2 (by omega)
      have d3 := hcell 3 (by omega)
      have HX := Lib.hid hx
      clear hx hcell
      obtain ⟨ra, rb, rc, rd⟩ := r
      simp only [R4.cells, Nat.add_zero, List.getElem?_cons_zero, List.getElem?_cons_succ] at d0 d1 d2 d3
      have hB := hU.at hcB hBn
      have e0 : wr.cell? ⟨w.heap.size, 0, none⟩ = some (.iface 171 (.pointer (some ⟨p, 0, none⟩))) := by simp [World.cell?, hB]
      have e1 : wr.cell? ⟨w.heap.size, 1, none⟩ = some (.func (Fn.func 60) #[] #[]) := by simp [World.cell?, hB]
      have hBw := lt_of_block hB
      go_wp2
      have n0 := World.cell?_alloc_at (w := wr) #[Value.int .u64 ra, .int .u64 rb, .int .u64 rc, .int .u64 rd] 71 wr.heap.size 0 rfl
      have n1 := World.cell?_alloc_at (w := wr) #[Value.int .u64 ra, .int .u64 rb, .int .u64 rc, .int .u64 rd] 71 wr.heap.size 1 rfl
      have n2 := World.cell?_alloc_at (w := wr) #[Value.int .u64 ra, .int .u64 rb, .int .u64 rc, .int .u64 rd] 71 wr.heap.size 2 rfl
      have n3 := World.cell?_alloc_at (w := wr) #[Value.int .u64 ra, .int .u64 rb, .int .u64 rc, .int .u64 rd] 71 wr.heap.size 3 rfl
      have hUn := (Upd.refl [] wr).alloc (Obj.cells #[Value.int .u64 ra, .int .u64 rb, .int .u64 rc, .int .u64 rd] 71)
      generalize wr.alloc (Obj.cells #[Value.int .u64 ra, .int .u64 rb, .int .u64 rc, .int .u64 rd] 71) = W at *
      have g0 := hUn.cell1 e0 (by simp)
      have g1 := hUn.cell1 e1 (by simp)
      simp only [List.getElem?_toArray, List.getElem?_cons_zero, List.getElem?_cons_succ] at n0 n1 n2 n3
      have hHW := hH.kept hUn (by simp) (by simp)
      have hmeth := mapp_u8 p
      refine wp_region_split (S := Upd [] W) [(true, 0), (true, 1), (true, 2), (true, 3), (true, 4), (true, 6), (true, 7)] [5] [8] (by kernel_rfl) (by kernel_rfl) (fun _ _ d _ _ h => by cases d <;> exact h) ((Upd.refl _ _).drew) ?_
      simp only [readsAt, opersAt, Option.map_some, List.filterMap_cons, List.filterMap_nil, List.getElem?_toArray, List.getElem?_cons_succ, List.getElem?_cons_zero]
      iterate 7 (refine ⟨_, Or.inl ⟨by rfl, fun w' hS => by first | (have q0 := Upd.cell1 hS g0 (by simp); have q1 := Upd.cell1 hS g1 (by simp); have q2 := Upd.cell1 hS n0 (by simp); have q3 := Upd.cell1 hS n1 (by simp); have q4 := Upd.cell1 hS n2 (by simp); have q5 := Upd.cell1 hS n3 (by simp); first | (go_simp; done) | (go_simp; with_reducible rfl)) | (go_simp; done) | (go_simp; with_reducible rfl)⟩, ?_⟩; simp only [Act.put, List.setIfInBounds_toArray, List.set_cons_zero, List.set_cons_succ])
      intro L0 hL0
      rw [if_pos (by rfl)]
      go_simp; refine (vin_u8 ⟨ra, rb, rc, rd⟩ _).mono ?_; rintro e w1 ⟨rfl, hu1⟩
      refine hL0 _ _ ⟨hu1.ofDrew, ?_⟩
      clear hL0 L0
      try simp only [preThen]
      change wpList _ _ _ [_] _ _
      have hH1 := hHW.kept hu1.ofDrew (by simp) (by simp)
      have hUw := (hUn.trans hu1.ofDrew (fun _ h => .inl h))
      go_wp2_with (go_at_call 284; (with_reducible refine (vapp_u8 p _ _ _ _ _ _ hH1 (by omega)).mono ?_); rintro e w2 ⟨rfl, ao2, c2, hH2, hU2, hI2⟩)
      have hUx : Upd (p :: bk ao) W0 w2 := (hU.trans (hUw.mono (by simp) : Upd (p :: bk ao) wr w1) (fun _ h => .inl h)).trans hU2 (fun y hy => by
        rcases List.mem_cons.1 hy with h | h
        · exact .inl (by rw [h]; exact List.mem_cons_self)
        · rcases hI y h with h' | h'
          · exact .inl (List.mem_cons_of_mem _ h')
          · exact .inr h')
      have hIx : In (bk ao) W0.heap.size ao2 := hI.step hI2 (Nat.le_trans hU.size hUw.size)
      have hHx : Hold w2 p 172 5 1 ao2 (m + (k + 1)) c2 (xs ++ (rs.take (k + 1)).flatMap cells_u8) := by
        rw [flatMap_take_succ _ _ _ (by omega), ← HX.out, ← List.append_assoc]
        exact hH2
      clear hH2 hU2 hI2 hH1 hHW
      go_roundw
      case rel => exact ⟨k + 1, ao2, c2, by omega, by go_num, hHx, hUx, hIx⟩
      case measure => simp [intOf]; omega
    · have hk0 : n ≤ k := by omega
      obtain rfl : k = n := by omega
      go_wp2
      go_end0
      refine ⟨rfl, ao', c', ?_, (hU0.mono (by simp)).trans hU (fun _ h => .inl h), hI.le hU0.size⟩
      rw [List.take_of_length_le (by omega)] at hH
      exact hH
theorem at_u8 (p g n c : Nat) (rs : List R4) (i : Nat) (hi : i < rs.length) (w : World) (hrs : ∀ r ∈ rs, Ok4 r) (h : Hold w p 172 5 1 (some ⟨g, 0, none⟩) n c (rs.flatMap cells_u8)) (hl : rs.length = n) :
    Calls Tryz.prog 294 #[V_u8 p, .int .i64 i] w fun e w' => e = .returned (kept_u8 rs[i]).agg ∧ Upd [] w w' := by
  obtain ⟨r, hx⟩ : ∃ r, r = rs[i] := ⟨_, rfl⟩
  have hr : Ok4 r := hrs r (by rw [hx]; exact List.getElem_mem _)
  have hpc := flat_piece (m := 1) (h.own.view 0 _ (fun j v hj => by rw [Nat.zero_add]; exact hj)) (fun _ => by first | rfl | exact lowV_len _ _ _) i hi
  rw [← hx] at hpc ⊢
  rw [Nat.mul_comm] at hpc
  have hgl : g < w.heap.size := h.own.lt g (by simp)
  clear hx
  go_enter Tryz.func294, Tryz.ntmps294
  simp only [V_u8]
  go_wp2
  obtain ⟨k1, u1, s1⟩ := alloc_facts w (Obj.cells #[.iface 171 (.pointer (some ⟨p, 0, none⟩)), .func (Fn.func 60) #[] #[], .func (Fn.func 61) #[] #[]] 178)
  obtain ⟨k2, u2, s2⟩ := alloc_facts (w.alloc (Obj.cells #[.iface 171 (.pointer (some ⟨p, 0, none⟩)), .func (Fn.func 60) #[] #[], .func (Fn.func 61) #[] #[]] 178)) (Obj.cells #[.int .u64 0, .int .u64 0, .int .u64 0, .int .u64 0] 71)
  generalize (w.alloc (Obj.cells #[.iface 171 (.pointer (some ⟨p, 0, none⟩)), .func (Fn.func 60) #[] #[], .func (Fn.func 61) #[] #[]] 178)).alloc (Obj.cells #[.int .u64 0, .int .u64 0, .int .u64 0, .int .u64 0] 71) = W at *
  rw [s1] at k2 s2
  have u12 := u1.trans u2 (fun _ h => .inl h)
  have hh := h.kept u12 (by simp) (by simp)
  have kk := u2.at k1 (by simp)
  have q0 : W.cell? ⟨w.heap.size, 0, none⟩ = some (.iface 171 (.pointer (some ⟨p, 0, none⟩))) := by simp [World.cell?, kk]
  have q2 : W.cell? ⟨w.heap.size, 2, none⟩ = some (.func (Fn.func 61) #[] #[]) := by simp [World.cell?, kk]
  clear k1 u1 kk u2
  have hrow := (Upd.refl [] W).drew.range (u12.range hpc hgl (by simp)) (Nat.lt_of_lt_of_le hgl u12.size) (by simp)
  have hmr := mrow_u8 p W.drew _ hh.cell
  refine wp_region_split (S := Upd [] W) [(true, 0), (true, 1), (true, 2), (true, 3), (true, 4)] [5] [6, 7] (by kernel_rfl) (by kernel_rfl) (fun _ _ d _ _ h => by cases d <;> exact h) ((Upd.refl _ _).drew) ?_
  simp only [readsAt, opersAt, Option.map_some, List.filterMap_cons, List.filterMap_nil, List.getElem?_toArray, List.getElem?_cons_succ, List.getElem?_cons_zero]
  iterate 5 (refine ⟨_, Or.inl ⟨by rfl, fun w' hS => by first | (have e0 := Upd.cell1 hS q0 (by simp); have e1 := Upd.cell1 hS q2 (by simp); first | (go_simp; done) | (go_simp; with_reducible rfl)) | (go_simp; done) | (go_simp; with_reducible rfl)⟩, ?_⟩; simp only [Act.put, List.setIfInBounds_toArray, List.set_cons_zero, List.set_cons_succ])
  intro L0 hL0
  rw [if_pos (by rfl)]
  go_simp; refine (vrow_u8 g n c i r _ hrow (Nat.lt_of_lt_of_le hgl u12.size) (by omega)).mono ?_; rintro e w1 ⟨rfl, hu1⟩
  refine hL0 _ _ ⟨hu1.ofDrew, ?_⟩
  clear hL0 L0
  try simp only [preThen]
  change wpList _ _ _ [_, _] _ _
  have m1 := hu1.ofDrew.at k2 (by simp)
  go_wp2_with (first
    | (go_at_call 61; (refine (vout_u8 r hr _).mono ?_); rintro e w2 ⟨rfl, hu2⟩; have m2 := hu2.at m1 (by simp))
    | ((with_reducible show wpList _ _ _ _ _ _); refine wpList_store_blk rfl 71 (.tmp 4) (.tmp 11) rfl (b := w.heap.size + 1) rfl m2 (cs := (kept_u8 r).cells) rfl rfl (by kernel_rfl) (by simp [R4.cells, Value.oneCell']) ?_; intro w4 hb4 hu4; simp only [Act.put]))
  refine bodyPost_ret (results_cell1 Tryz.results294 (b := w.heap.size + 1) rfl (run_loadVar_mid w4 (w.heap.size + 1) 0 71 (kept_u8 r).cells _ (rangeAt_blk hb4) Tryz.underlying71 rfl (by kernel_rfl))) rfl ⟨rfl, ?_⟩
  exact ((u12.trans hu1.ofDrew (fun _ h => .inl h)).trans hu2 (fun _ h => .inl h)).trans hu4 (fun y hy => by simp at hy; exact .inr (by omega))
theorem mapp_u16 (p : Nat) (w : World) : (method 634 179 (.pointer (some ⟨p, 0, none⟩)) "Append").run Tryz.prog w = .ok (295, .pointer (some ⟨p, 0, none⟩)) w := by kernel_rfl
theorem mrow1_u16 (k p : Nat) (w : World) : (method (k + 1) 179 (.pointer (some ⟨p, 0, none⟩)) "Row").run Tryz.prog w = (do let v ← receiverAt 179 (.val (.pointer (some ⟨p, 0, none⟩))) false (some "Row"); pure (299, v) : Sem (FuncId × Value)).run Tryz.prog w := by kernel_rfl
theorem mrow2_u16 (p : Nat) (w : World) : (receiverAt 179 (.val (.pointer (some ⟨p, 0, none⟩))) false (some "Row")).run Tryz.prog w = (loadVar 181 ⟨p, 0, none⟩).run Tryz.prog w := by kernel_rfl
theorem load_u16 (p : Nat) (w : World) (v : Value) (h : w.cell? ⟨p, 0, none⟩ = some v) : (loadVar 181 ⟨p, 0, none⟩).run Tryz.prog w = .ok v w := by go_simp
theorem mrow_u16 (p : Nat) (w : World) (v : Value) (h : w.cell? ⟨p, 0, none⟩ = some v) : (method 634 179 (.pointer (some ⟨p, 0, none⟩)) "Row").run Tryz.prog w = .ok (299, v) w := by
  rw [show 634 = (634 - 1) + 1 from rfl, mrow1_u16]
  simp only [Sem.run_bind, mrow2_u16, load_u16 p w v h, Result.andThen_ok, Sem.run_pure]
theorem add_u16 (p : Nat) (ar : Option Addr) (n c : Nat) (rs : List R4) (ao : Option Addr) (m cp : Nat) (xs : List Value) (w : World) (hr : View w 4 ar n (rs.flatMap R4.cells)) (hc : Hold w p 181 22 1 ao m cp xs)
    (hap : 0 < n → Apart ar p ao) (hn : n ≤ 1000) (hm : m ≤ 100000) :
    Calls Tryz.prog 303 #[V_u16 p, .slice ar n c] w fun e w' => e = .returned (.tuple #[]) ∧ Grew w w' p 181 22 1 ao (m + n) (xs ++ rs.flatMap cells_u16) := by
  have hrl : rs.length = n := by have := hr.len; rw [flatMap_len _ 4 R4.cells_len] at this; omega
  have hpw := hc.lt
  go_enter Tryz.func303, Tryz.ntmps303
  simp only [V_u16]
  go_wp2
  have hcB : (w.alloc (Obj.cells #[.iface 179 (.pointer (some ⟨p, 0, none⟩)), .func (Fn.func 62) #[] #[], .func (Fn.func 63) #[] #[]] 187)).heap[w.heap.size]? = some (Obj.cells #[.iface 179 (.pointer (some ⟨p, 0, none⟩)), .func (Fn.func 62) #[] #[], .func (Fn.func 63) #[] #[]] 187) := heap_alloc_new _ _
  have hU0 := (Upd.refl [] w).alloc (Obj.cells #[.iface 179 (.pointer (some ⟨p, 0, none⟩)), .func (Fn.func 62) #[] #[], .func (Fn.func 63) #[] #[]] 187)
  have hBn : w.heap.size ∉ p :: bk ao := fun h => by
    rcases List.mem_cons.1 h with h | h
    · omega
    · have := hc.bk_lt _ h; omega
  have hBl := lt_of_block hcB
  generalize w.alloc (Obj.cells #[.iface 179 (.pointer (some ⟨p, 0, none⟩)), .func (Fn.func 62) #[] #[], .func (Fn.func 63) #[] #[]] 187) = W0 at *
  have hc0 := hc.kept hU0 (by simp) (by simp)
  have hr0 := hr.upd hU0 (by simp)
  go_loopw [8] (fun i wr => ∃ (k : Nat) (ao' : Option Addr) (c' : Nat), k ≤ n ∧ i = .int .i64 k ∧ Hold wr p 181 22 1 ao' (m + k) c' (xs ++ (rs.take k).flatMap cells_u16) ∧ Upd (p :: bk ao) W0 wr ∧ In (bk ao) W0.heap.size ao')
    (fun i _ => n - (intOf i).toNat)
  case atStart => exact ⟨0, ao, cp, Nat.zero_le _, rfl, by simpa using hc0, Upd.refl _ _, In.self (fun _ h => h)⟩
  case round =>
    obtain ⟨k, ao', c', hk, rfl, hH, hU, hI⟩ := hrel
    by_cases hlt : k < n
    · have hk0 : ((k : Int) < n) := by omega
      obtain ⟨b, o, rfl, hrr, hbb⟩ := hr0.at_ (by omega)
      have hbn : b ∉ p :: bk ao := (hap (by omega)).not b (by simp)
      obtain ⟨r, hx⟩ : ∃ r, r = rs[k]'(by omega) := ⟨_, rfl⟩
      have hcell : ∀ j, j < 4 → wr.cell? ⟨b, o + k * 4 + j, none⟩ = r.cells[j]? := fun j hj => by
        rw [hU.cell hbb hbn, Nat.add_assoc]
        have h1 := rows_get rs k (by omega) j hj
        rw [← hx] at h1
        obtain ⟨u, hu⟩ : ∃ u, r.cells[j]? = some u := ⟨r.cells[j]'(by rw [R4.cells_len]; omega), by simp⟩
        rw [hu]
        exact hrr (k * 4 + j) u (h1.trans hu)
      have d0 := hcell 0 (by omega)
      have d1 := hcell 1 (by omega)
      have d2 := hcell 2 (by omega)
      have d3 := hcell 3 (by omega)
      have HX := Lib.hid hx
      clear hx hcell
      obtain ⟨ra, rb, rc, rd⟩ := r
      simp only [R4.cells, Nat.add_zero, List.getElem?_cons_zero, List.getElem?_cons_succ] at d0 d1 d2 d3
      have hB := hU.at hcB hBn
      have e0 : wr.cell? ⟨w.heap.size, 0, none⟩ = some (.iface 179 (.pointer (some ⟨p, 0, none⟩))) := by simp [World.cell?, hB]
      have e1 : wr.cell? ⟨w.heap.size, 1, none⟩ = some (.func (Fn.func 62) #[] #[]) := by simp [World.cell?, hB]
      have hBw := lt_of_block hB
      go_wp2
      have n0 := World.cell?_alloc_at (w := wr) #[Value.int .u64 ra, .int .u64 rb, .int .u64 rc, .int .u64 rd] 71 wr.heap.size 0 rfl
      have n1 := World.cell?_alloc_at (w := wr) #[Value.int .u64 ra, .int .u64 rb, .int .u64 rc, .int .u64 rd] 71 wr.heap.size 1 rfl
      have n2 := World.cell?_alloc_at (w := wr) #[Value.int .u64 ra, .int .u64 rb, .int .u64 rc, .int .u64 rd] 71 wr.heap.size 2 rfl
      have n3 := World.cell?_alloc_at (w := wr) #[Value.int .u64 ra, .int .u64 rb, .int .u64 rc, .int .u64 rd] 71 wr.heap.size 3 rfl
      have hUn := (Upd.refl [] wr).alloc (Obj.cells #[Value.int .u64 ra, .int .u64 rb, .int .u64 rc, .int .u64 rd] 71)
      generalize wr.alloc (Obj.cells #[Value.int .u64 ra, .int .u64 rb, .int .u64 rc, .int .u64 rd] 71) = W at *
      have g0 := hUn.cell1 e0 (by simp)
      have g1 := hUn.cell1 e1 (by simp)
      simp only [List.getElem?_toArray, List.getElem?_cons_zero, List.getElem?_cons_succ] at n0 n1 n2 n3
      have hHW := hH.kept hUn (by simp) (by simp)
      have hmeth := mapp_u16 p
      refine wp_region_split (S := Upd [] W) [(true, 0), (true, 1), (true, 2), (true, 3), (true, 4), (true, 6), (true, 7)] [5] [8] (by kernel_rfl) (by kernel_rfl) (fun _ _ d _ _ h => by cases d <;> exact h) ((Upd.refl _ _).drew) ?_
      simp only [readsAt, opersAt, Option.map_some, List.filterMap_cons, List.filterMap_nil, List.getElem?_toArray, List.getElem?_cons_succ, List.getElem?_cons_zero]
      iterate 7 (refine ⟨_, Or.inl ⟨by rfl, fun w' hS => by first | (have q0 := Upd.cell1 hS g0 (by simp); have q1 := Upd.cell1 hS g1 (by simp); have q2 := Upd.cell1 hS n0 (by simp); have q3 := Upd.cell1 hS n1 (by simp); have q4 := Upd.cell1 hS n2 (by simp); have q5 := Upd.cell1 hS n3 (by simp); first | (go_simp; done) | (go_simp; with_reducible rfl)) | (go_simp; done) | (go_simp; with_reducible rfl)⟩, ?_⟩; simp only [Act.put, List.setIfInBounds_toArray, List.set_cons_zero, List.set_cons_succ])
      intro L0 hL0
      rw [if_pos (by rfl)]
      go_simp; refine (vin_u16 ⟨ra, rb, rc, rd⟩ _).mono ?_; rintro e w1 ⟨rfl, hu1⟩
      refine hL0 _ _ ⟨hu1.ofDrew, ?_⟩
      clear hL0 L0
      try simp only [preThen]
      change wpList _ _ _ [_] _ _
      have hH1 := hHW.kept hu1.ofDrew (by simp) (by simp)
      have hUw := (hUn.trans hu1.ofDrew (fun _ h => .inl h))
      go_wp2_with (go_at_call 295; (with_reducible refine (vapp_u16 p _ _ _ _ _ _ hH1 (by omega)).mono ?_); rintro e w2 ⟨rfl, ao2, c2, hH2, hU2, hI2⟩)
      have hUx : Upd (p :: bk ao) W0 w2 := (hU.trans (hUw.mono (by simp) : Upd (p :: bk ao) wr w1) (fun _ h => .inl h)).trans hU2 (fun y hy => by
        rcases List.mem_cons.1 hy with h | h
        · exact .inl (by rw [h]; exact List.mem_cons_self)
        · rcases hI y h with h' | h'
          · exact .inl (List.mem_cons_of_mem _ h')
          · exact .inr h')
      have hIx : In (bk ao) W0.heap.size ao2 := hI.step hI2 (Nat.le_trans hU.size hUw.size)
      have hHx : Hold w2 p 181 22 1 ao2 (m + (k + 1)) c2 (xs ++ (rs.take (k + 1)).flatMap cells_u16) := by
        rw [flatMap_take_succ _ _ _ (by omega), ← HX.out, ← List.append_assoc]
        exact hH2
      clear hH2 hU2 hI2 hH1 hHW
      go_roundw
      case rel => exact ⟨k + 1, ao2, c2, by omega, by go_num, hHx, hUx, hIx⟩
      case measure => simp [intOf]; omega
    · have hk0 : n ≤ k := by omega
      obtain rfl : k = n := by omega
      go_wp2
      go_end0
      refine ⟨rfl, ao', c', ?_, (hU0.mono (by simp)).trans hU (fun _ h => .inl h), hI.le hU0.size⟩
      rw [List.take_of_length_le (by omega)] at hH
      exact hH
theorem at_u16 (p g n c : Nat) (rs : List R4) (i : Nat) (hi : i < rs.length) (w : World) (hrs : ∀ r ∈ rs, Ok4 r) (h : Hold w p 181 22 1 (some ⟨g, 0, none⟩) n c (rs.flatMap cells_u16)) (hl : rs.length = n) :
    Calls Tryz.prog 305 #[V_u16 p, .int .i64 i] w fun e w' => e = .returned (kept_u16 rs[i]).agg ∧ Upd [] w w' := by
  obtain ⟨r, hx⟩ : ∃ r, r = rs[i] := ⟨_, rfl⟩
  have hr : Ok4 r := hrs r (by rw [hx]; exact List.getElem_mem _)
  have hpc := flat_piece (m := 1) (h.own.view 0 _ (fun j v hj => by rw [Nat.zero_add]; exact hj)) (fun _ => by first | rfl | exact lowV_len _ _ _) i hi
  rw [← hx] at hpc ⊢
  rw [Nat.mul_comm] at hpc
  have hgl : g < w.heap.size := h.own.lt g (by simp)
  clear hx
  go_enter Tryz.func305, Tryz.ntmps305
  simp only [V_u16]
  go_wp2
  obtain ⟨k1, u1, s1⟩ := alloc_facts w (Obj.cells #[.iface 179 (.pointer (some ⟨p, 0, none⟩)), .func (Fn.func 62) #[] #[], .func (Fn.func 63) #[] #[]] 187)
  obtain ⟨k2, u2, s2⟩ := alloc_facts (w.alloc (Obj.cells #[.iface 179 (.pointer (some ⟨p, 0, none⟩)), .func (Fn.func 62) #[] #[], .func (Fn.func 63) #[] #[]] 187)) (Obj.cells #[.int .u64 0, .int .u64 0, .int .u64 0, .int .u64 0] 71)
  generalize (w.alloc (Obj.cells #[.iface 179 (.pointer (some ⟨p, 0, none⟩)), .func (Fn.func 62) #[] #[], .func (Fn.func 63) #[] #[]] 187)).alloc (Obj.cells #[.int .u64 0, .int .u64 0, .int .u64 0, .int .u64 0] 71) = W at *
  rw [s1] at k2 s2
  have u12 := u1.trans u2 (fun _ h => .inl h)
  have hh := h.kept u12 (by simp) (by simp)
  have kk := u2.at k1 (by simp)
  have q0 : W.cell? ⟨w.heap.size, 0, none⟩ = some (.iface 179 (.pointer (some ⟨p, 0, none⟩))) := by simp [World.cell?, kk]
  have q2 : W.cell? ⟨w.heap.size, 2, none⟩ = some (.func (Fn.func 63) #[] #[]) := by simp [World.cell?, kk]
  clear k1 u1 kk u2
  have hrow := (Upd.refl [] W).drew.range (u12.range hpc hgl (by simp)) (Nat.lt_of_lt_of_le hgl u12.size) (by simp)
  have hmr := mrow_u16 p W.drew _ hh.cell
  refine wp_region_split (S := Upd [] W) [(true, 0), (true, 1), (true, 2), (true, 3), (true, 4)] [5] [6, 7] (by kernel_rfl) (by kernel_rfl) (fun _ _ d _ _ h => by cases d <;> exact h) ((Upd.refl _ _).drew) ?_
  simp only [readsAt, opersAt, Option.map_some, List.filterMap_cons, List.filterMap_nil, List.getElem?_toArray, List.getElem?_cons_succ, List.getElem?_cons_zero]
  iterate 5 (refine ⟨_, Or.inl ⟨by rfl, fun w' hS => by first | (have e0 := Upd.cell1 hS q0 (by simp); have e1 := Upd.cell1 hS q2 (by simp); first | (go_simp; done) | (go_simp; with_reducible rfl)) | (go_simp; done) | (go_simp; with_reducible rfl)⟩, ?_⟩; simp only [Act.put, List.setIfInBounds_toArray, List.set_cons_zero, List.set_cons_succ])
  intro L0 hL0
  rw [if_pos (by rfl)]
  go_simp; refine (vrow_u16 g n c i r _ hrow (Nat.lt_of_lt_of_le hgl u12.size) (by omega)).mono ?_; rintro e w1 ⟨rfl, hu1⟩
  refine hL0 _ _ ⟨hu1.ofDrew, ?_⟩
  clear hL0 L0
  try simp only [preThen]
  change wpList _ _ _ [_, _] _ _
  have m1 := hu1.ofDrew.at k2 (by simp)
  go_wp2_with (first
    | (go_at_call 63; (refine (vout_u16 r hr _).mono ?_); rintro e w2 ⟨rfl, hu2⟩; have m2 := hu2.at m1 (by simp))
    | ((with_reducible show wpList _ _ _ _ _ _); refine wpList_store_blk rfl 71 (.tmp 4) (.tmp 11) rfl (b := w.heap.size + 1) rfl m2 (cs := (kept_u16 r).cells) rfl rfl (by kernel_rfl) (by simp [R4.cells, Value.oneCell']) ?_; intro w4 hb4 hu4; simp only [Act.put]))
  refine bodyPost_ret (results_cell1 Tryz.results305 (b := w.heap.size + 1) rfl (run_loadVar_mid w4 (w.heap.size + 1) 0 71 (kept_u16 r).cells _ (rangeAt_blk hb4) Tryz.underlying71 rfl (by kernel_rfl))) rfl ⟨rfl, ?_⟩
  exact ((u12.trans hu1.ofDrew (fun _ h => .inl h)).trans hu2 (fun _ h => .inl h)).trans hu4 (fun y hy => by simp at hy; exact .inr (by omega))
theorem mapp_u32 (p : Nat) (w : World) : (method 634 188 (.pointer (some ⟨p, 0, none⟩)) "Append").run Tryz.prog w = .ok (306, .pointer (some ⟨p, 0, none⟩)) w := by kernel_rfl
theorem mrow1_u32 (k p : Nat) (w : World) : (method (k + 1) 188 (.pointer (some ⟨p, 0, none⟩)) "Row").run Tryz.prog w = (do let v ← receiverAt 188 (.val (.pointer (some ⟨p, 0, none⟩))) false (some "Row"); pure (310, v) : Sem (FuncId × Value)).run Tryz.prog w := by kernel_rfl
theorem mrow2_u32 (p : Nat) (w : World) : (receiverAt 188 (.val (.pointer (some ⟨p, 0, none⟩))) false (some "Row")).run Tryz.prog w = (loadVar 190 ⟨p, 0, none⟩).run Tryz.prog w := by kernel_rfl
theorem load_u32 (p : Nat) (w : World) (v : Value) (h : w.cell? ⟨p, 0, none⟩ = some v) : (loadVar 190 ⟨p, 0, none⟩).run Tryz.prog w = .ok v w := by go_simp
theorem mrow_u32 (p : Nat) (w : World) (v : Value) (h : w.cell? ⟨p, 0, none⟩ = some v) : (method 634 188 (.pointer (some ⟨p, 0, none⟩)) "Row").run Tryz.prog w = .ok (310, v) w := by
  rw [show 634 = (634 - 1) + 1 from rfl, mrow1_u32]
  simp only [Sem.run_bind, mrow2_u32, load_u32 p w v h, Result.andThen_ok, Sem.run_pure]
theorem add_u32 (p : Nat) (ar : Option Addr) (n c : Nat) (rs : List R4) (ao : Option Addr) (m cp : Nat) (xs : List Value) (w : World) (hr : View w 4 ar n (rs.flatMap R4.cells)) (hc : Hold w p 190 76 1 ao m cp xs)
    (hap : 0 < n → Apart ar p ao) (hn : n ≤ 1000) (hm : m ≤ 100000) :
    Calls Tryz.prog 314 #[V_u32 p, .slice ar n c] w fun e w' => e = .returned (.tuple #[]) ∧ Grew w w' p 190 76 1 ao (m + n) (xs ++ rs.flatMap cells_u32) := by
  have hrl : rs.length = n := by have := hr.len; rw [flatMap_len _ 4 R4.cells_len] at this; omega
  have hpw := hc.lt
  go_enter Tryz.func314, Tryz.ntmps314
  simp only [V_u32]
  go_wp2
  have hcB : (w.alloc (Obj.cells #[.iface 188 (.pointer (some ⟨p, 0, none⟩)), .func (Fn.func 64) #[] #[], .func (Fn.func 65) #[] #[]] 196)).heap[w.heap.size]? = some (Obj.cells #[.iface 188 (.pointer (some ⟨p, 0, none⟩)), .func (Fn.func 64) #[] #[], .func (Fn.func 65) #[] #[]] 196) := heap_alloc_new _ _
  have hU0 := (Upd.refl [] w).alloc (Obj.cells #[.iface 188 (.pointer (some ⟨p, 0, none⟩)), .func (Fn.func 64) #[] #[], .func (Fn.func 65) #[] #[]] 196)
  have hBn : w.heap.size ∉ p :: bk ao := fun h => by
    rcases List.mem_cons.1 h with h | h
    · omega
    · have := hc.bk_lt _ h; omega
  have hBl := lt_of_block hcB
  generalize w.alloc (Obj.cells #[.iface 188 (.pointer (some ⟨p, 0, none⟩)), .func (Fn.func 64) #[] #[], .func (Fn.func 65) #[] #[]] 196) = W0 at *
  have hc0 := hc.kept hU0 (by simp) (by simp)
  have hr0 := hr.upd hU0 (by simp)
  go_loopw [8] (fun i wr => ∃ (k : Nat) (ao' : Option Addr) (c' : Nat), k ≤ n ∧ i = .int .i64 k ∧ Hold wr p 190 76 1 ao' (m + k) c' (xs ++ (rs.take k).flatMap cells_u32) ∧ Upd (p :: bk ao) W0 wr ∧ In (bk ao) W0.heap.size ao')
    (fun i _ => n - (intOf i).toNat)
  case atStart => exact ⟨0, ao, cp, Nat.zero_le _, rfl, by simpa using hc0, Upd.refl _ _, In.self (fun _ h => h)⟩
  case round =>
    obtain ⟨k, ao', c', hk, rfl, hH, hU, hI⟩ := hrel
    by_cases hlt : k < n
    · have hk0 : ((k : Int) < n) := by omega
      obtain ⟨b, o, rfl, hrr, hbb⟩ := hr0.at_ (by omega)
      have hbn : b ∉ p :: bk ao := (hap (by omega)).not b (by simp)
      obtain ⟨r, hx⟩ : ∃ r, r = rs[k]'(by omega) := ⟨_, rfl⟩
      have hcell : ∀ j, j < 4 → wr.cell? ⟨b, o + k * 4 + j, none⟩ = r.cells[j]? := fun j hj => by
        rw [hU.cell hbb hbn, Nat.add_assoc]
        have h1 := rows_get rs k (by omega) j hj
        rw [← hx] at h1
        obtain ⟨u, hu⟩ : ∃ u, r.cells[j]? = some u := ⟨r.cells[j]'(by rw [R4.cells_len]; omega), by simp⟩
        rw [hu]
        exact hrr (k * 4 + j) u (h1.trans hu)
      have d0 := hcell 0 (by omega)
      have d1 := hcell 1 (by omega)
      have d2 := hcell 2 (by omega)
      have d3 := hcell 3 (by omega)
      have HX := Lib.hid hx
      clear hx hcell
      obtain ⟨ra, rb, rc, rd⟩ := r
      simp only [R4.cells, Nat.add_zero, List.getElem?_cons_zero, List.getElem?_cons_succ] at d0 d1 d2 d3
      have hB := hU.at hcB hBn
      have e0 : wr.cell? ⟨w.heap.size, 0, none⟩ = some (.iface 188 (.pointer (some ⟨p, 0, none⟩))) := by simp [World.cell?, hB]
      have e1 : wr.cell? ⟨w.heap.size, 1, none⟩ = some (.func (Fn.func 64) #[] #[]) := by simp [World.cell?, hB]
      have hBw := lt_of_block hB
      go_wp2
      have n0 := World.cell?_alloc_at (w := wr) #[Value.int .u64 ra, .int .u64 rb, .int .u64 rc, .int .u64 rd] 71 wr.heap.size 0 rfl
      have n1 := World.cell?_alloc_at (w := wr) #[Value.int .u64 ra, .int .u64 rb, .int .u64 rc, .int .u64 rd] 71 wr.heap.size 1 rfl
      have n2 := World.cell?_alloc_at (w := wr) #[Value.int .u64 ra, .int .u64 rb, .int .u64 rc, .int .u64 rd] 71 wr.heap.size 2 rfl
      have n3 := World.cell?_alloc_at (w := wr) #[Value.int .u64 ra, .int .u64 rb, .int .u64 rc, .int .u64 rd] 71 wr.heap.size 3 rfl
      have hUn := (Upd.refl [] wr).alloc (Obj.cells #[Value.int .u64 ra, .int .u64 rb, .int .u64 rc, .int .u64 rd] 71)
      generalize wr.alloc (Obj.cells #[Value.int .u64 ra, .int .u64 rb, .int .u64 rc, .int .u64 rd] 71) = W at *
      have g0 := hUn.cell1 e0 (by simp)
      have g1 := hUn.cell1 e1 (by simp)
      simp only [List.getElem?_toArray, List.getElem?_cons_zero, List.getElem?_cons_succ] at n0 n1 n2 n3
      have hHW := hH.kept hUn (by simp) (by simp)
      have hmeth := mapp_u32 p
      refine wp_region_split (S := Upd [] W) [(true, 0), (true, 1), (true, 2), (true, 3), (true, 4), (true, 6), (true, 7)] [5] [8] (by kernel_rfl) (by kernel_rfl) (fun _ _ d _ _ h => by cases d <;> exact h) ((Upd.refl _ _).drew) ?_
      simp only [readsAt, opersAt, Option.map_some, List.filterMap_cons, List.filterMap_nil, List.getElem?_toArray, List.getElem?_cons_succ, List.getElem?_cons_zero]
      iterate 7 (refine ⟨_, Or.inl ⟨by rfl, fun w' hS => by first | (have q0 := Upd.cell1 hS g0 (by simp); have q1 := Upd.cell1 hS g1 (by simp); have q2 := Upd.cell1 hS n0 (by simp); have q3 := Upd.cell1 hS n1 (by simp); have q4 := Upd.cell1 hS n2 (by simp); have q5 := Upd.cell1 hS n3 (by simp); first | (go_simp; done) | (go_simp; with_reducible rfl)) | (go_simp; done) | (go_simp; with_reducible rfl)⟩, ?_⟩; simp only [Act.put, List.setIfInBounds_toArray, List.set_cons_zero, List.set_cons_succ])
      intro L0 hL0
      rw [if_pos (by rfl)]
      go_simp; refine (vin_u32 ⟨ra, rb, rc, rd⟩ _).mono ?_; rintro e w1 ⟨rfl, hu1⟩
      refine hL0 _ _ ⟨hu1.ofDrew, ?_⟩
      clear hL0 L0
      try simp only [preThen]
      change wpList _ _ _ [_] _ _
      have hH1 := hHW.kept hu1.ofDrew (by simp) (by simp)
      have hUw := (hUn.trans hu1.ofDrew (fun _ h => .inl h))
      go_wp2_with (go_at_call 306; (with_reducible refine (vapp_u32 p _ _ _ _ _ _ hH1 (by omega)).mono ?_); rintro e w2 ⟨rfl, ao2, c2, hH2, hU2, hI2⟩)
      have hUx : Upd (p :: bk ao) W0 w2 := (hU.trans (hUw.mono (by simp) : Upd (p :: bk ao) wr w1) (fun _ h => .inl h)).trans hU2 (fun y hy => by
        rcases List.mem_cons.1 hy with h | h
        · exact .inl (by rw [h]; exact List.mem_cons_self)
        · rcases hI y h with h' | h'
          · exact .inl (List.mem_cons_of_mem _ h')
          · exact .inr h')
      have hIx : In (bk ao) W0.heap.size ao2 := hI.step hI2 (Nat.le_trans hU.size hUw.size)
      have hHx : Hold w2 p 190 76 1 ao2 (m + (k + 1)) c2 (xs ++ (rs.take (k + 1)).flatMap cells_u32) := by
        rw [flatMap_take_succ _ _ _ (by omega), ← HX.out, ← List.append_assoc]
        exact hH2
      clear hH2 hU2 hI2 hH1 hHW
      go_roundw
      case rel => exact ⟨k + 1, ao2, c2, by omega, by go_num, hHx, hUx, hIx⟩
      case measure => simp [intOf]; omega
    · have hk0 : n ≤ k := by omega
      obtain rfl : k = n := by omega
      go_wp2
      go_end0
      refine ⟨rfl, ao', c', ?_, (hU0.mono (by simp)).trans hU (fun _ h => .inl h), hI.le hU0.size⟩
      rw [List.take_of_length_le (by omega)] at hH
      exact hH
theorem at_u32 (p g n c : Nat) (rs : List R4) (i : Nat) (hi : i < rs.length) (w : World) (hrs : ∀ r ∈ rs, Ok4 r) (h : Hold w p 190 76 1 (some ⟨g, 0, none⟩) n c (rs.flatMap cells_u32)) (hl : rs.length = n) :
    Calls Tryz.prog 316 #[V_u32 p, .int .i64 i] w fun e w' => e = .returned (kept_u32 rs[i]).agg ∧ Upd [] w w' := by
  obtain ⟨r, hx⟩ : ∃ r, r = rs[i] := ⟨_, rfl⟩
  have hr : Ok4 r := hrs r (by rw [hx]; exact List.getElem_mem _)
  have hpc := flat_piece (m := 1) (h.own.view 0 _ (fun j v hj => by rw [Nat.zero_add]; exact hj)) (fun _ => by first | rfl | exact lowV_len _ _ _) i hi
  rw [← hx] at hpc ⊢
  rw [Nat.mul_comm] at hpc
  have hgl : g < w.heap.size := h.own.lt g (by simp)
  clear hx
  go_enter Tryz.func316, Tryz.ntmps316
  simp only [V_u32]
  go_wp2
  obtain ⟨k1, u1, s1⟩ := alloc_facts w (Obj.cells #[.iface 188 (.pointer (some ⟨p, 0, none⟩)), .func (Fn.func 64) #[] #[], .func (Fn.func 65) #[] #[]] 196)
  obtain ⟨k2, u2, s2⟩ := alloc_facts (w.alloc (Obj.cells #[.iface 188 (.pointer (some ⟨p, 0, none⟩)), .func (Fn.func 64) #[] #[], .func (Fn.func 65) #[] #[]] 196)) (Obj.cells #[.int .u64 0, .int .u64 0, .int .u64 0, .int .u64 0] 71)
  generalize (w.alloc (Obj.cells #[.iface 188 (.pointer (some ⟨p, 0, none⟩)), .func (Fn.func 64) #[] #[], .func (Fn.func 65) #[] #[]] 196)).alloc (Obj.cells #[.int .u64 0, .int .u64 0, .int .u64 0, .int .u64 0] 71) = W at *
  rw [s1] at k2 s2
  have u12 := u1.trans u2 (fun _ h => .inl h)
  have hh := h.kept u12 (by simp) (by simp)
  have kk := u2.at k1 (by simp)
  have q0 : W.cell? ⟨w.heap.size, 0, none⟩ = some (.iface 188 (.pointer (some ⟨p, 0, none⟩))) := by simp [World.cell?, kk]
  have q2 : W.cell? ⟨w.heap.size, 2, none⟩ = some (.func (Fn.func 65) #[] #[]) := by simp [World.cell?, kk]
  clear k1 u1 kk u2
  have hrow := (Upd.refl [] W).drew.range (u12.range hpc hgl (by simp)) (Nat.lt_of_lt_of_le hgl u12.size) (by simp)
  have hmr := mrow_u32 p W.drew _ hh.cell
  refine wp_region_split (S := Upd [] W) [(true, 0), (true, 1), (true, 2), (true, 3), (true, 4)] [5] [6, 7] (by kernel_rfl) (by kernel_rfl) (fun _ _ d _ _ h => by cases d <;> exact h) ((Upd.refl _ _).drew) ?_
  simp only [readsAt, opersAt, Option.map_some, List.filterMap_cons, List.filterMap_nil, List.getElem?_toArray, List.getElem?_cons_succ, List.getElem?_cons_zero]
  iterate 5 (refine ⟨_, Or.inl ⟨by rfl, fun w' hS => by first | (have e0 := Upd.cell1 hS q0 (by simp); have e1 := Upd.cell1 hS q2 (by simp); first | (go_simp; done) | (go_simp; with_reducible rfl)) | (go_simp; done) | (go_simp; with_reducible rfl)⟩, ?_⟩; simp only [Act.put, List.setIfInBounds_toArray, List.set_cons_zero, List.set_cons_succ])
  intro L0 hL0
  rw [if_pos (by rfl)]
  go_simp; refine (vrow_u32 g n c i r _ hrow (Nat.lt_of_lt_of_le hgl u12.size) (by omega)).mono ?_; rintro e w1 ⟨rfl, hu1⟩
  refine hL0 _ _ ⟨hu1.ofDrew, ?_⟩
  clear hL0 L0
  try simp only [preThen]
  change wpList _ _ _ [_, _] _ _
  have m1 := hu1.ofDrew.at k2 (by simp)
  go_wp2_with (first
    | (go_at_call 65; (refine (vout_u32 r hr _).mono ?_); rintro e w2 ⟨rfl, hu2⟩; have m2 := hu2.at m1 (by simp))
    | ((with_reducible show wpList _ _ _ _ _ _); refine wpList_store_blk rfl 71 (.tmp 4) (.tmp 11) rfl (b := w.heap.size + 1) rfl m2 (cs := (kept_u32 r).cells) rfl rfl (by kernel_rfl) (by simp [R4.cells, Value.oneCell']) ?_; intro w4 hb4 hu4; simp only [Act.put]))
  refine bodyPost_ret (results_cell1 Tryz.results316 (b := w.heap.size + 1) rfl (run_loadVar_mid w4 (w.heap.size + 1) 0 71 (kept_u32 r).cells _ (rangeAt_blk hb4) Tryz.underlying71 rfl (by kernel_rfl))) rfl ⟨rfl, ?_⟩
  exact ((u12.trans hu1.ofDrew (fun _ h => .inl h)).trans hu2 (fun _ h => .inl h)).trans hu4 (fun y hy => by simp at hy; exact .inr (by omega))
theorem mapp_u64 (p : Nat) (w : World) : (method 634 197 (.pointer (some ⟨p, 0, none⟩)) "Append").run Tryz.prog w = .ok (317, .pointer (some ⟨p, 0, none⟩)) w := by kernel_rfl
theorem mrow1_u64 (k p : Nat) (w : World) : (method (k + 1) 197 (.pointer (some ⟨p, 0, none⟩)) "Row").run Tryz.prog w = (do let v ← receiverAt 197 (.val (.pointer (some ⟨p, 0, none⟩))) false (some "Row"); pure (321, v) : Sem (FuncId × Value)).run Tryz.prog w := by kernel_rfl
theorem mrow2_u64 (p : Nat) (w : World) : (receiverAt 197 (.val (.pointer (some ⟨p, 0, none⟩))) false (some "Row")).run Tryz.prog w = (loadVar 199 ⟨p, 0, none⟩).run Tryz.prog w := by kernel_rfl
theorem load_u64 (p : Nat) (w : World) (v : Value) (h : w.cell? ⟨p, 0, none⟩ = some v) : (loadVar 199 ⟨p, 0, none⟩).run Tryz.prog w = .ok v w := by go_simp
theorem mrow_u64 (p : Nat) (w : World) (v : Value) (h : w.cell? ⟨p, 0, none⟩ = some v) : (method 634 197 (.pointer (some ⟨p, 0, none⟩)) "Row").run Tryz.prog w = .ok (321, v) w := by
  rw [show 634 = (634 - 1) + 1 from rfl, mrow1_u64]
  simp only [Sem.run_bind, mrow2_u64, load_u64 p w v h, Result.andThen_ok, Sem.run_pure]
theorem add_u64 (p : Nat) (ar : Option Addr) (n c : Nat) (rs : List R4) (ao : Option Addr) (m cp : Nat) (xs : List Value) (w : World) (hr : View w 4 ar n (rs.flatMap R4.cells)) (hc : Hold w p 199 69 1 ao m cp xs)
    (hap : 0 < n → Apart ar p ao) (hn : n ≤ 1000) (hm : m ≤ 100000) :
    Calls Tryz.prog 325 #[V_u64 p, .slice ar n c] w fun e w' => e = .returned (.tuple #[]) ∧ Grew w w' p 199 69 1 ao (m + n) (xs ++ rs.flatMap cells_u64) := by
  have hrl : rs.length = n := by have := hr.len; rw [flatMap_len _ 4 R4.cells_len] at this; omega
  have hpw := hc.lt
  go_enter Tryz.func325, Tryz.ntmps325
  simp only [V_u64]
  go_wp2
  have hcB : (w.alloc (Obj.cells #[.iface 197 (.pointer (some ⟨p, 0, none⟩)), .func (Fn.func 66) #[] #[], .func (Fn.func 67) #[] #[]] 205)).heap[w.heap.size]? = some (Obj.cells #[.iface 197 (.pointer (some ⟨p, 0, none⟩)), .func (Fn.func 66) #[] #[], .func (Fn.func 67) #[] #[]] 205) := heap_alloc_new _ _
  have hU0 := (Upd.refl [] w).alloc (Obj.cells #[.iface 197 (.pointer (some ⟨p, 0, none⟩)), .func (Fn.func 66) #[] #[], .func (Fn.func 67) #[] #[]] 205)
  have hBn : w.heap.size ∉ p :: bk ao := fun h => by
    rcases List.mem_cons.1 h with h | h
    · omega
    · have := hc.bk_lt _ h; omega
  have hBl := lt_of_block hcB
  generalize w.alloc (Obj.cells #[.iface 197 (.pointer (some ⟨p, 0, none⟩)), .func (Fn.func 66) #[] #[], .func (Fn.func 67) #[] #[]] 205) = W0 at *
  have hc0 := hc.kept hU0 (by simp) (by simp)
  have hr0 := hr.upd hU0 (by simp)
  go_loopw [8] (fun i wr => ∃ (k : Nat) (ao' : Option Addr) (c' : Nat), k ≤ n ∧ i = .int .i64 k ∧ Hold wr p 199 69 1 ao' (m + k) c' (xs ++ (rs.take k).flatMap cells_u64) ∧ Upd (p :: bk ao) W0 wr ∧ In (bk ao) W0.heap.size ao')
    (fun i _ => n - (intOf i).toNat)
  case atStart => exact ⟨0, ao, cp, Nat.zero_le _, rfl, by simpa using hc0, Upd.refl _ _, In.self (fun _ h => h)⟩
  case round =>
    obtain ⟨k, ao', c', hk, rfl, hH, hU, hI⟩ := hrel
    by_cases hlt : k < n
    · have hk0 : ((k : Int) < n) := by omega
      obtain ⟨b, o, rfl, hrr, hbb⟩ := hr0.at_ (by omega)
      have hbn : b ∉ p :: bk ao := (hap (by omega)).not b (by simp)
      obtain ⟨r, hx⟩ : ∃ r, r = rs[k]'(by omega) := ⟨_, rfl⟩
      have hcell : ∀ j, j < 4 → wr.cell? ⟨b, o + k * 4 + j, none⟩ = r.cells[j]? := fun j hj => by
        rw [hU.cell hbb hbn, Nat.add_assoc]
        have h1 := rows_get rs k (by omega) j hj
        rw [← hx] at h1
        obtain ⟨u, hu⟩ : ∃ u, r.cells[j]? = some u := ⟨r.cells[j]'(by rw [R4.cells_len]; omega), by simp⟩
        rw [hu]
        exact hrr (k * 4 + j) u (h1.trans hu)
      have d0 := hcell 0 (by omega)
      have d1 := hcell 1 (by omega)
      have d2 := hcell 2 (by omega)
      have d3 := hcell 3 (by omega)
      have HX := Lib.hid hx
      clear hx hcell
      obtain ⟨ra, rb, rc, rd⟩ := r
      simp only [R4.cells, Nat.add_zero, List.getElem?_cons_zero, List.getElem?_cons_succ] at d0 d1 d2 d3
      have hB := hU.at hcB hBn
      have e0 : wr.cell? ⟨w.heap.size, 0, none⟩ = some (.iface 197 (.pointer (some ⟨p, 0, none⟩))) := by simp [World.cell?, hB]
      have e1 : wr.cell? ⟨w.heap.size, 1, none⟩ = some (.func (Fn.func 66) #[] #[]) := by simp [World.cell?, hB]
      have hBw := lt_of_block hB
      go_wp2
      have n0 := World.cell?_alloc_at (w := wr) #[Value.int .u64 ra, .int .u64 rb, .int .u64 rc, .int .u64 rd] 71 wr.heap.size 0 rfl
      have n1 := World.cell?_alloc_at (w := wr) #[Value.int .u64 ra, .int .u64 rb, .int .u64 rc, .int .u64 rd] 71 wr.heap.size 1 rfl
      have n2 := World.cell?_alloc_at (w := wr) #[Value.int .u64 ra, .int .u64 rb, .int .u64 rc, .int .u64 rd] 71 wr.heap.size 2 rfl
      have n3 := World.cell?_alloc_at (w := wr) #[Value.int .u64 ra, .int .u64 rb, .int .u64 rc, .int .u64 rd] 71 wr.heap.size 3 rfl
      have hUn := (Upd.refl [] wr).alloc (Obj.cells #[Value.int .u64 ra, .int .u64 rb, .int .u64 rc, .int .u64 rd] 71)
      generalize wr.alloc (Obj.cells #[Value.int .u64 ra, .int .u64 rb, .int .u64 rc, .int .u64 rd] 71) = W at *
      have g0 := hUn.cell1 e0 (by simp)
      have g1 := hUn.cell1 e1 (by simp)
      simp only [List.getElem?_toArray, List.getElem?_cons_zero, List.getElem?_cons_succ] at n0 n1 n2 n3
      have hHW := hH.kept hUn (by simp) (by simp)
      have hmeth := mapp_u64 p
      refine wp_region_split (S := Upd [] W) [(true, 0), (true, 1), (true, 2), (true, 3), (true, 4), (true, 6), (true, 7)] [5] [8] (by kernel_rfl) (by kernel_rfl) (fun _ _ d _ _ h => by cases d <;> exact h) ((Upd.refl _ _).drew) ?_
      simp only [readsAt, opersAt, Option.map_some, List.filterMap_cons, List.filterMap_nil, List.getElem?_toArray, List.getElem?_cons_succ, List.getElem?_cons_zero]
      iterate 7 (refine ⟨_, Or.inl ⟨by rfl, fun w' hS => by first | (have q0 := Upd.cell1 hS g0 (by simp); have q1 := Upd.cell1 hS g1 (by simp); have q2 := Upd.cell1 hS n0 (by simp); have q3 := Upd.cell1 hS n1 (by simp); have q4 := Upd.cell1 hS n2 (by simp); have q5 := Upd.cell1 hS n3 (by simp); first | (go_simp; done) | (go_simp; with_reducible rfl)) | (go_simp; done) | (go_simp; with_reducible rfl)⟩, ?_⟩; simp only [Act.put, List.setIfInBounds_toArray, List.set_cons_zero, List.set_cons_succ])
      intro L0 hL0
      rw [if_pos (by rfl)]
      go_simp; refine (vin_u64 ⟨ra, rb, rc, rd⟩ _).mono ?_; rintro e w1 ⟨rfl, hu1⟩
      refine hL0 _ _ ⟨hu1.ofDrew, ?_⟩
      clear hL0 L0
      try simp only [preThen]
      change wpList _ _ _ [_] _ _
      have hH1 := hHW.kept hu1.ofDrew (by simp) (by simp)
      have hUw := (hUn.trans hu1.ofDrew (fun _ h => .inl h))
      go_wp2_with (go_at_call 317; (with_reducible refine (vapp_u64 p _ _ _ _ _ _ hH1 (by omega)).mono ?_); rintro e w2 ⟨rfl, ao2, c2, hH2, hU2, hI2⟩)
      have hUx : Upd (p :: bk ao) W0 w2 := (hU.trans (hUw.mono (by simp) : Upd (p :: bk ao) wr w1) (fun _ h => .inl h)).trans hU2 (fun y hy => by
        rcases List.mem_cons.1 hy with h | h
        · exact .inl (by rw [h]; exact List.mem_cons_self)
        · rcases hI y h with h' | h'
          · exact .inl (List.mem_cons_of_mem _ h')
          · exact .inr h')
      have hIx : In (bk ao) W0.heap.size ao2 := hI.step hI2 (Nat.le_trans hU.size hUw.size)
      have hHx : Hold w2 p 199 69 1 ao2 (m + (k + 1)) c2 (xs ++ (rs.take (k + 1)).flatMap cells_u64) := by
        rw [flatMap_take_succ _ _ _ (by omega), ← HX.out, ← List.append_assoc]
        exact hH2
      clear hH2 hU2 hI2 hH1 hHW
      go_roundw
      case rel => exact ⟨k + 1, ao2, c2, by omega, by go_num, hHx, hUx, hIx⟩
      case measure => simp [intOf]; omega
    · have hk0 : n ≤ k := by omega
      obtain rfl : k = n := by omega
      go_wp2
      go_end0
      refine ⟨rfl, ao', c', ?_, (hU0.mono (by simp)).trans hU (fun _ h => .inl h), hI.le hU0.size⟩
      rw [List.take_of_length_le (by omega)] at hH
      exact hH
theorem at_u64 (p g n c : Nat) (rs : List R4) (i : Nat) (hi : i < rs.length) (w : World) (hrs : ∀ r ∈ rs, Ok4 r) (h : Hold w p 199 69 1 (some ⟨g, 0, none⟩) n c (rs.flatMap cells_u64)) (hl : rs.length = n) :
    Calls Tryz.prog 327 #[V_u64 p, .int .i64 i] w fun e w' => e = .returned (kept_u64 rs[i]).agg ∧ Upd [] w w' := by
  obtain ⟨r, hx⟩ : ∃ r, r = rs[i] := ⟨_, rfl⟩
  have hr : Ok4 r := hrs r (by rw [hx]; exact List.getElem_mem _)
  have hpc := flat_piece (m := 1) (h.own.view 0 _ (fun j v hj => by rw [Nat.zero_add]; exact hj)) (fun _ => by first | rfl | exact lowV_len _ _ _) i hi
  rw [← hx] at hpc ⊢
  rw [Nat.mul_comm] at hpc
  have hgl : g < w.heap.size := h.own.lt g (by simp)
  clear hx
  go_enter Tryz.func327, Tryz.ntmps327
  simp only [V_u64]
  go_wp2
  obtain ⟨k1, u1, s1⟩ := alloc_facts w (Obj.cells #[.iface 197 (.pointer (some ⟨p, 0, none⟩)), .func (Fn.func 66) #[] #[], .func (Fn.func 67) #[] #[]] 205)
  obtain ⟨k2, u2, s2⟩ := alloc_facts (w.alloc (Obj.cells #[.iface 197 (.pointer (some ⟨p, 0, none⟩)), .func (Fn.func 66) #[] #[], .func (Fn.func 67) #[] #[]] 205)) (Obj.cells #[.int .u64 0, .int .u64 0, .int .u64 0, .int .u64 0] 71)
  generalize (w.alloc (Obj.cells #[.iface 197 (.pointer (some ⟨p, 0, none⟩)), .func (Fn.func 66) #[] #[], .func (Fn.func 67) #[] #[]] 205)).alloc (Obj.cells #[.int .u64 0, .int .u64 0, .int .u64 0, .int .u64 0] 71) = W at *
  rw [s1] at k2 s2
  have u12 := u1.trans u2 (fun _ h => .inl h)
  have hh := h.kept u12 (by simp) (by simp)
  have kk := u2.at k1 (by simp)
  have q0 : W.cell? ⟨w.heap.size, 0, none⟩ = some (.iface 197 (.pointer (some ⟨p, 0, none⟩))) := by simp [World.cell?, kk]
  have q2 : W.cell? ⟨w.heap.size, 2, none⟩ = some (.func (Fn.func 67) #[] #[]) := by simp [World.cell?, kk]
  clear k1 u1 kk u2
  have hrow := (Upd.refl [] W).drew.range (u12.range hpc hgl (by simp)) (Nat.lt_of_lt_of_le hgl u12.size) (by simp)
  have hmr := mrow_u64 p W.drew _ hh.cell
  refine wp_region_split (S := Upd [] W) [(true, 0), (true, 1), (true, 2), (true, 3), (true, 4)] [5] [6, 7] (by kernel_rfl) (by kernel_rfl) (fun _ _ d _ _ h => by cases d <;> exact h) ((Upd.refl _ _).drew) ?_
  simp only [readsAt, opersAt, Option.map_some, List.filterMap_cons, List.filterMap_nil, List.getElem?_toArray, List.getElem?_cons_succ, List.getElem?_cons_zero]
  iterate 5 (refine ⟨_, Or.inl ⟨by rfl, fun w' hS => by first | (have e0 := Upd.cell1 hS q0 (by simp); have e1 := Upd.cell1 hS q2 (by simp); first | (go_simp; done) | (go_simp; with_reducible rfl)) | (go_simp; done) | (go_simp; with_reducible rfl)⟩, ?_⟩; simp only [Act.put, List.setIfInBounds_toArray, List.set_cons_zero, List.set_cons_succ])
  intro L0 hL0
  rw [if_pos (by rfl)]
  go_simp; refine (vrow_u64 g n c i r _ hrow (Nat.lt_of_lt_of_le hgl u12.size) (by omega)).mono ?_; rintro e w1 ⟨rfl, hu1⟩
  refine hL0 _ _ ⟨hu1.ofDrew, ?_⟩
  clear hL0 L0
  try simp only [preThen]
  change wpList _ _ _ [_, _] _ _
  have m1 := hu1.ofDrew.at k2 (by simp)
  go_wp2_with (first
    | (go_at_call 67; (refine (vout_u64 r hr _).mono ?_); rintro e w2 ⟨rfl, hu2⟩; have m2 := hu2.at m1 (by simp))
    | ((with_reducible show wpList _ _ _ _ _ _); refine wpList_store_blk rfl 71 (.tmp 4) (.tmp 11) rfl (b := w.heap.size + 1) rfl m2 (cs := (kept_u64 r).cells) rfl rfl (by kernel_rfl) (by simp [R4.cells, Value.oneCell']) ?_; intro w4 hb4 hu4; simp only [Act.put]))
  refine bodyPost_ret (results_cell1 Tryz.results327 (b := w.heap.size + 1) rfl (run_loadVar_mid w4 (w.heap.size + 1) 0 71 (kept_u64 r).cells _ (rangeAt_blk hb4) Tryz.underlying71 rfl (by kernel_rfl))) rfl ⟨rfl, ?_⟩
  exact ((u12.trans hu1.ofDrew (fun _ h => .inl h)).trans hu2 (fun _ h => .inl h)).trans hu4 (fun y hy => by simp at hy; exact .inr (by omega))
theorem mapp_u128 (p : Nat) (w : World) : (method 634 242 (.pointer (some ⟨p, 0, none⟩)) "Append").run Tryz.prog w = .ok (329, .pointer (some ⟨p, 0, none⟩)) w := by kernel_rfl
theorem mrow1_u128 (k p : Nat) (w : World) : (method (k + 1) 242 (.pointer (some ⟨p, 0, none⟩)) "Row").run Tryz.prog w = (do let v ← receiverAt 242 (.val (.pointer (some ⟨p, 0, none⟩))) false (some "Row"); pure (333, v) : Sem (FuncId × Value)).run Tryz.prog w := by kernel_rfl
theorem mrow2_u128 (p : Nat) (w : World) : (receiverAt 242 (.val (.pointer (some ⟨p, 0, none⟩))) false (some "Row")).run Tryz.prog w = (loadVar 244 ⟨p, 0, none⟩).run Tryz.prog w := by kernel_rfl
theorem load_u128 (p : Nat) (w : World) (v : Value) (h : w.cell? ⟨p, 0, none⟩ = some v) : (loadVar 244 ⟨p, 0, none⟩).run Tryz.prog w = .ok v w := by go_simp
theorem mrow_u128 (p : Nat) (w : World) (v : Value) (h : w.cell? ⟨p, 0, none⟩ = some v) : (method 634 242 (.pointer (some ⟨p, 0, none⟩)) "Row").run Tryz.prog w = .ok (333, v) w := by
  rw [show 634 = (634 - 1) + 1 from rfl, mrow1_u128]
  simp only [Sem.run_bind, mrow2_u128, load_u128 p w v h, Result.andThen_ok, Sem.run_pure]
theorem add_u128 (p : Nat) (ar : Option Addr) (n c : Nat) (rs : List R4) (ao : Option Addr) (m cp : Nat) (xs : List Value) (w : World) (hr : View w 4 ar n (rs.flatMap R4.cells)) (hc : Hold w p 244 151 2 ao m cp xs)
    (hap : 0 < n → Apart ar p ao) (hn : n ≤ 1000) (hm : m ≤ 100000) :
    Calls Tryz.prog 337 #[V_u128 p, .slice ar n c] w fun e w' => e = .returned (.tuple #[]) ∧ Grew w w' p 244 151 2 ao (m + n) (xs ++ rs.flatMap cells_u128) := by
  have hrl : rs.length = n := by have := hr.len; rw [flatMap_len _ 4 R4.cells_len] at this; omega
  have hpw := hc.lt
  go_enter Tryz.func337, Tryz.ntmps337
  simp only [V_u128]
  go_wp2
  have hcB : (w.alloc (Obj.cells #[.iface 242 (.pointer (some ⟨p, 0, none⟩)), .func (Fn.func 54) #[] #[], .func (Fn.func 86) #[] #[]] 249)).heap[w.heap.size]? = some (Obj.cells #[.iface 242 (.pointer (some ⟨p, 0, none⟩)), .func (Fn.func 54) #[] #[], .func (Fn.func 86) #[] #[]] 249) := heap_alloc_new _ _
  have hU0 := (Upd.refl [] w).alloc (Obj.cells #[.iface 242 (.pointer (some ⟨p, 0, none⟩)), .func (Fn.func 54) #[] #[], .func (Fn.func 86) #[] #[]] 249)
  have hBn : w.heap.size ∉ p :: bk ao := fun h => by
    rcases List.mem_cons.1 h with h | h
    · omega
    · have := hc.bk_lt _ h; omega
  have hBl := lt_of_block hcB
  generalize w.alloc (Obj.cells #[.iface 242 (.pointer (some ⟨p, 0, none⟩)), .func (Fn.func 54) #[] #[], .func (Fn.func 86) #[] #[]] 249) = W0 at *
  have hc0 := hc.kept hU0 (by simp) (by simp)
  have hr0 := hr.upd hU0 (by simp)
  go_loopw [8] (fun i wr => ∃ (k : Nat) (ao' : Option Addr) (c' : Nat), k ≤ n ∧ i = .int .i64 k ∧ Hold wr p 244 151 2 ao' (m + k) c' (xs ++ (rs.take k).flatMap cells_u128) ∧ Upd (p :: bk ao) W0 wr ∧ In (bk ao) W0.heap.size ao')
    (fun i _ => n - (intOf i).toNat)
  case atStart => exact ⟨0, ao, cp, Nat.zero_le _, rfl, by simpa using hc0, Upd.refl _ _, In.self (fun _ h => h)⟩
  case round =>
    obtain ⟨k, ao', c', hk, rfl, hH, hU, hI⟩ := hrel
    by_cases hlt : k < n
    · have hk0 : ((k : Int) < n) := by omega
      obtain ⟨b, o, rfl, hrr, hbb⟩ := hr0.at_ (by omega)
      have hbn : b ∉ p :: bk ao := (hap (by omega)).not b (by simp)
      obtain ⟨r, hx⟩ : ∃ r, r = rs[k]'(by omega) := ⟨_, rfl⟩
      have hcell : ∀ j, j < 4 → wr.cell? ⟨b, o + k * 4 + j, none⟩ = r.cells[j]? := fun j hj => by
        rw [hU.cell hbb hbn, Nat.add_assoc]
        have h1 := rows_get rs k (by omega) j hj
        rw [← hx] at h1
        obtain ⟨u, hu⟩ : ∃ u, r.cells[j]? = some u := ⟨r.cells[j]'(by rw [R4.cells_len]; omega), by simp⟩
        rw [hu]
        exact hrr (k * 4 + j) u (h1.trans hu)
      have d0 := hcell 0 (by omega)
      have d1 := hcell 1 (by omega)
      have d2 := hcell 2 (by omega)
      have d3 := hcell 3 (by omega)
      have HX := Lib.hid hx
      clear hx hcell
      obtain ⟨ra, rb, rc, rd⟩ := r
      simp only [R4.cells, Nat.add_zero, List.getElem?_cons_zero, List.getElem?_cons_succ] at d0 d1 d2 d3
      have hB := hU.at hcB hBn
      have e0 : wr.cell? ⟨w.heap.size, 0, none⟩ = some (.iface 242 (.pointer (some ⟨p, 0, none⟩))) := by simp [World.cell?, hB]
      have e1 : wr.cell? ⟨w.heap.size, 1, none⟩ = some (.func (Fn.func 54) #[] #[]) := by simp [World.cell?, hB]
      have hBw := lt_of_block hB
      go_wp2
      have n0 := World.cell?_alloc_at (w := wr) #[Value.int .u64 ra, .int .u64 rb, .int .u64 rc, .int .u64 rd] 71 wr.heap.size 0 rfl
      have n1 := World.cell?_alloc_at (w := wr) #[Value.int .u64 ra, .int .u64 rb, .int .u64 rc, .int .u64 rd] 71 wr.heap.size 1 rfl
      have n2 := World.cell?_alloc_at (w := wr) #[Value.int .u64 ra, .int .u64 rb, .int .u64 rc, .int .u64 rd] 71 wr.heap.size 2 rfl
      have n3 := World.cell?_alloc_at (w := wr) #[Value.int .u64 ra, .int .u64 rb, .int .u64 rc, .int .u64 rd] 71 wr.heap.size 3 rfl
      have hUn := (Upd.refl [] wr).alloc (Obj.cells #[Value.int .u64 ra, .int .u64 rb, .int .u64 rc, .int .u64 rd] 71)
      generalize wr.alloc (Obj.cells #[Value.int .u64 ra, .int .u64 rb, .int .u64 rc, .int .u64 rd] 71) = W at *
      have g0 := hUn.cell1 e0 (by simp)
      have g1 := hUn.cell1 e1 (by simp)
      simp only [List.getElem?_toArray, List.getElem?_cons_zero, List.getElem?_cons_succ] at n0 n1 n2 n3
      have hHW := hH.kept hUn (by simp) (by simp)
      have hmeth := mapp_u128 p
      refine wp_region_split (S := Upd [] W) [(true, 0), (true, 1), (true, 2), (true, 3), (true, 4), (true, 6), (true, 7)] [5] [8] (by kernel_rfl) (by kernel_rfl) (fun _ _ d _ _ h => by cases d <;> exact h) ((Upd.refl _ _).drew) ?_
      simp only [readsAt, opersAt, Option.map_some, List.filterMap_cons, List.filterMap_nil, List.getElem?_toArray, List.getElem?_cons_succ, List.getElem?_cons_zero]
      iterate 7 (refine ⟨_, Or.inl ⟨by rfl, fun w' hS => by first | (have q0 := Upd.cell1 hS g0 (by simp); have q1 := Upd.cell1 hS g1 (by simp); have q2 := Upd.cell1 hS n0 (by simp); have q3 := Upd.cell1 hS n1 (by simp); have q4 := Upd.cell1 hS n2 (by simp); have q5 := Upd.cell1 hS n3 (by simp); first | (go_simp; done) | (go_simp; with_reducible rfl)) | (go_simp; done) | (go_simp; with_reducible rfl)⟩, ?_⟩; simp only [Act.put, List.setIfInBounds_toArray, List.set_cons_zero, List.set_cons_succ])
      intro L0 hL0
      rw [if_pos (by rfl)]
      go_simp; refine (vin_u128 ⟨ra, rb, rc, rd⟩ _).mono ?_; rintro e w1 ⟨rfl, hu1⟩
      refine hL0 _ _ ⟨hu1.ofDrew, ?_⟩
      clear hL0 L0
      try simp only [preThen]
      change wpList _ _ _ [_] _ _
      have hH1 := hHW.kept hu1.ofDrew (by simp) (by simp)
      have hUw := (hUn.trans hu1.ofDrew (fun _ h => .inl h))
      go_wp2_with (go_at_call 329; (with_reducible refine (vapp_u128 p _ _ _ _ _ _ hH1 (by omega)).mono ?_); rintro e w2 ⟨rfl, ao2, c2, hH2, hU2, hI2⟩)
      have hUx : Upd (p :: bk ao) W0 w2 := (hU.trans (hUw.mono (by simp) : Upd (p :: bk ao) wr w1) (fun _ h => .inl h)).trans hU2 (fun y hy => by
        rcases List.mem_cons.1 hy with h | h
        · exact .inl (by rw [h]; exact List.mem_cons_self)
        · rcases hI y h with h' | h'
          · exact .inl (List.mem_cons_of_mem _ h')
          · exact .inr h')
      have hIx : In (bk ao) W0.heap.size ao2 := hI.step hI2 (Nat.le_trans hU.size hUw.size)
      have hHx : Hold w2 p 244 151 2 ao2 (m + (k + 1)) c2 (xs ++ (rs.take (k + 1)).flatMap cells_u128) := by
        rw [flatMap_take_succ _ _ _ (by omega), ← HX.out, ← List.append_assoc]
        exact hH2
      clear hH2 hU2 hI2 hH1 hHW
      go_roundw
      case rel => exact ⟨k + 1, ao2, c2, by omega, by go_num, hHx, hUx, hIx⟩
      case measure => simp [intOf]; omega
    · have hk0 : n ≤ k := by omega
      obtain rfl : k = n := by omega
      go_wp2
      go_end0
      refine ⟨rfl, ao', c', ?_, (hU0.mono (by simp)).trans hU (fun _ h => .inl h), hI.le hU0.size⟩
      rw [List.take_of_length_le (by omega)] at hH
      exact hH
theorem at_u128 (p g n c : Nat) (rs : List R4) (i : Nat) (hi : i < rs.length) (w : World) (hrs : ∀ r ∈ rs, Ok4 r) (h : Hold w p 244 151 2 (some ⟨g, 0, none⟩) n c (rs.flatMap cells_u128)) (hl : rs.length = n) :
    Calls Tryz.prog 339 #[V_u128 p, .int .i64 i] w fun e w' => e = .returned (kept_u128 rs[i]).agg ∧ Upd [] w w' := by
  obtain ⟨r, hx⟩ : ∃ r, r = rs[i] := ⟨_, rfl⟩
  have hr : Ok4 r := hrs r (by rw [hx]; exact List.getElem_mem _)
  have hpc := flat_piece (m := 2) (h.own.view 0 _ (fun j v hj => by rw [Nat.zero_add]; exact hj)) (fun _ => by first | rfl | exact lowV_len _ _ _) i hi
  rw [← hx] at hpc ⊢
  rw [Nat.mul_comm] at hpc
  have hgl : g < w.heap.size := h.own.lt g (by simp)
  clear hx
  go_enter Tryz.func339, Tryz.ntmps339
  simp only [V_u128]
  go_wp2
  obtain ⟨k1, u1, s1⟩ := alloc_facts w (Obj.cells #[.iface 242 (.pointer (some ⟨p, 0, none⟩)), .func (Fn.func 54) #[] #[], .func (Fn.func 86) #[] #[]] 249)
  obtain ⟨k2, u2, s2⟩ := alloc_facts (w.alloc (Obj.cells #[.iface 242 (.pointer (some ⟨p, 0, none⟩)), .func (Fn.func 54) #[] #[], .func (Fn.func 86) #[] #[]] 249)) (Obj.cells #[.int .u64 0, .int .u64 0, .int .u64 0, .int .u64 0] 71)
  generalize (w.alloc (Obj.cells #[.iface 242 (.pointer (some ⟨p, 0, none⟩)), .func (Fn.func 54) #[] #[], .func (Fn.func 86) #[] #[]] 249)).alloc (Obj.cells #[.int .u64 0, .int .u64 0, .int .u64 0, .int .u64 0] 71) = W at *
  rw [s1] at k2 s2
  have u12 := u1.trans u2 (fun _ h => .inl h)
  have hh := h.kept u12 (by simp) (by simp)
  have kk := u2.at k1 (by simp)
  have q0 : W.cell? ⟨w.heap.size, 0, none⟩ = some (.iface 242 (.pointer (some ⟨p, 0, none⟩))) := by simp [World.cell?, kk]
  have q2 : W.cell? ⟨w.heap.size, 2, none⟩ = some (.func (Fn.func 86) #[] #[]) := by simp [World.cell?, kk]
  clear k1 u1 kk u2
  have hrow := (Upd.refl [] W).drew.range (u12.range hpc hgl (by simp)) (Nat.lt_of_lt_of_le hgl u12.size) (by simp)
  have hmr := mrow_u128 p W.drew _ hh.cell
  refine wp_region_split (S := Upd [] W) [(true, 0), (true, 1), (true, 2), (true, 3), (true, 4)] [5] [6, 7] (by kernel_rfl) (by kernel_rfl) (fun _ _ d _ _ h => by cases d <;> exact h) ((Upd.refl _ _).drew) ?_
  simp only [readsAt, opersAt, Option.map_some, List.filterMap_cons, List.filterMap_nil, List.getElem?_toArray, List.getElem?_cons_succ, List.getElem?_cons_zero]
  iterate 5 (refine ⟨_, Or.inl ⟨by rfl, fun w' hS => by first | (have e0 := Upd.cell1 hS q0 (by simp); have e1 := Upd.cell1 hS q2 (by simp); first | (go_simp; done) | (go_simp; with_reducible rfl)) | (go_simp; done) | (go_simp; with_reducible rfl)⟩, ?_⟩; simp only [Act.put, List.setIfInBounds_toArray, List.set_cons_zero, List.set_cons_succ])
  intro L0 hL0
  rw [if_pos (by rfl)]
  go_simp; refine (vrow_u128 g n c i r _ hrow (Nat.lt_of_lt_of_le hgl u12.size) (by omega)).mono ?_; rintro e w1 ⟨rfl, hu1⟩
  refine hL0 _ _ ⟨hu1.ofDrew, ?_⟩
  clear hL0 L0
  try simp only [preThen]
  change wpList _ _ _ [_, _] _ _
  have m1 := hu1.ofDrew.at k2 (by simp)
  go_wp2_with (first
    | (go_at_call 86; (refine (vout_u128 r hr _).mono ?_); rintro e w2 ⟨rfl, hu2⟩; have m2 := hu2.at m1 (by simp))
    | ((with_reducible show wpList _ _ _ _ _ _); refine wpList_store_blk rfl 71 (.tmp 4) (.tmp 11) rfl (b := w.heap.size + 1) rfl m2 (cs := (kept_u128 r).cells) rfl rfl (by kernel_rfl) (by simp [R4.cells, Value.oneCell']) ?_; intro w4 hb4 hu4; simp only [Act.put]))
  refine bodyPost_ret (results_cell1 Tryz.results339 (b := w.heap.size + 1) rfl (run_loadVar_mid w4 (w.heap.size + 1) 0 71 (kept_u128 r).cells _ (rangeAt_blk hb4) Tryz.underlying71 rfl (by kernel_rfl))) rfl ⟨rfl, ?_⟩
  exact ((u12.trans hu1.ofDrew (fun _ h => .inl h)).trans hu2 (fun _ h => .inl h)).trans hu4 (fun y hy => by simp at hy; exact .inr (by omega))
theorem mapp_u256 (p : Nat) (w : World) : (method 634 250 (.pointer (some ⟨p, 0, none⟩)) "Append").run Tryz.prog w = .ok (340, .pointer (some ⟨p, 0, none⟩)) w := by kernel_rfl
theorem mrow1_u256 (k p : Nat) (w : World) : (method (k + 1) 250 (.pointer (some ⟨p, 0, none⟩)) "Row").run Tryz.prog w = (do let v ← receiverAt 250 (.val (.pointer (some ⟨p, 0, none⟩))) false (some "Row"); pure (344, v) : Sem (FuncId × Value)).run Tryz.prog w := by kernel_rfl
theorem mrow2_u256 (p : Nat) (w : World) : (receiverAt 250 (.val (.pointer (some ⟨p, 0, none⟩))) false (some "Row")).run Tryz.prog w = (loadVar 252 ⟨p, 0, none⟩).run Tryz.prog w := by kernel_rfl
theorem load_u256 (p : Nat) (w : World) (v : Value) (h : w.cell? ⟨p, 0, none⟩ = some v) : (loadVar 252 ⟨p, 0, none⟩).run Tryz.prog w = .ok v w := by go_simp
theorem mrow_u256 (p : Nat) (w : World) (v : Value) (h : w.cell? ⟨p, 0, none⟩ = some v) : (method 634 250 (.pointer (some ⟨p, 0, none⟩)) "Row").run Tryz.prog w = .ok (344, v) w := by
  rw [show 634 = (634 - 1) + 1 from rfl, mrow1_u256]
  simp only [Sem.run_bind, mrow2_u256, load_u256 p w v h, Result.andThen_ok, Sem.run_pure]
theorem add_u256 (p : Nat) (ar : Option Addr) (n c : Nat) (rs : List R4) (ao : Option Addr) (m cp : Nat) (xs : List Value) (w : World) (hr : View w 4 ar n (rs.flatMap R4.cells)) (hc : Hold w p 252 253 4 ao m cp xs)
    (hap : 0 < n → Apart ar p ao) (hn : n ≤ 1000) (hm : m ≤ 100000) :
    Calls Tryz.prog 348 #[V_u256 p, .slice ar n c] w fun e w' => e = .returned (.tuple #[]) ∧ Grew w w' p 252 253 4 ao (m + n) (xs ++ rs.flatMap cells_u256) := by
  have hrl : rs.length = n := by have := hr.len; rw [flatMap_len _ 4 R4.cells_len] at this; omega
  have hpw := hc.lt
  go_enter Tryz.func348, Tryz.ntmps348
  simp only [V_u256]
  go_wp2
  have hcB : (w.alloc (Obj.cells #[.iface 250 (.pointer (some ⟨p, 0, none⟩)), .func (Fn.func 87) #[] #[], .func (Fn.func 88) #[] #[]] 259)).heap[w.heap.size]? = some (Obj.cells #[.iface 250 (.pointer (some ⟨p, 0, none⟩)), .func (Fn.func 87) #[] #[], .func (Fn.func 88) #[] #[]] 259) := heap_alloc_new _ _
  have hU0 := (Upd.refl [] w).alloc (Obj.cells #[.iface 250 (.pointer (some ⟨p, 0, none⟩)), .func (Fn.func 87) #[] #[], .func (Fn.func 88) #[] #[]] 259)
  have hBn : w.heap.size ∉ p :: bk ao := fun h => by
    rcases List.mem_cons.1 h with h | h
    · omega
    · have := hc.bk_lt _ h; omega
  have hBl := lt_of_block hcB
  generalize w.alloc (Obj.cells #[.iface 250 (.pointer (some ⟨p, 0, none⟩)), .func (Fn.func 87) #[] #[], .func (Fn.func 88) #[] #[]] 259) = W0 at *
  have hc0 := hc.kept hU0 (by simp) (by simp)
  have hr0 := hr.upd hU0 (by simp)
  go_loopw [8] (fun i wr => ∃ (k : Nat) (ao' : Option Addr) (c' : Nat), k ≤ n ∧ i = .int .i64 k ∧ Hold wr p 252 253 4 ao' (m + k) c' (xs ++ (rs.take k).flatMap cells_u256) ∧ Upd (p :: bk ao) W0 wr ∧ In (bk ao) W0.heap.size ao')
    (fun i _ => n - (intOf i).toNat)
  case atStart => exact ⟨0, ao, cp, Nat.zero_le _, rfl, by simpa using hc0, Upd.refl _ _, In.self (fun _ h => h)⟩
  case round =>
    obtain ⟨k, ao', c', hk, rfl, hH, hU, hI⟩ := hrel
    by_cases hlt : k < n
    · have hk0 : ((k : Int) < n) := by omega
      obtain ⟨b, o, rfl, hrr, hbb⟩ := hr0.at_ (by omega)
      have hbn : b ∉ p :: bk ao := (hap (by omega)).not b (by simp)
      obtain ⟨r, hx⟩ : ∃ r, r = rs[k]'(by omega) := ⟨_, rfl⟩
      have hcell : ∀ j, j < 4 → wr.cell? ⟨b, o + k * 4 + j, none⟩ = r.cells[j]? := fun j hj => by
        rw [hU.cell hbb hbn, Nat.add_assoc]
        have h1 := rows_get rs k (by omega) j hj
        rw [← hx] at h1
        obtain ⟨u, hu⟩ : ∃ u, r.cells[j]? = some u := ⟨r.cells[j]'(by rw [R4.cells_len]; omega), by simp⟩
        rw [hu]
        exact hrr (k * 4 + j) u (h1.trans hu)
      have d0 := hcell 0 (by omega)
      have d1 := hcell 1 (by omega)
      have d2 := hcell 2 (by omega)
      have d3 := hcell 3 (by omega)
      have HX := Lib.hid hx
      clear hx hcell
      obtain ⟨ra, rb, rc, rd⟩ := r
      simp only [R4.cells, Nat.add_zero, List.getElem?_cons_zero, List.getElem?_cons_succ] at d0 d1 d2 d3
      have hB := hU.at hcB hBn
      have e0 : wr.cell? ⟨w.heap.size, 0, none⟩ = some (.iface 250 (.pointer (some ⟨p, 0, none⟩))) := by simp [World.cell?, hB]
      have e1 : wr.cell? ⟨w.heap.size, 1, none⟩ = some (.func (Fn.func 87) #[] #[]) := by simp [World.cell?, hB]
      have hBw := lt_of_block hB
      go_wp2
      have n0 := World.cell?_alloc_at (w := wr) #[Value.int .u64 ra, .int .u64 rb, .int .u64 rc, .int .u64 rd] 71 wr.heap.size 0 rfl
      have n1 := World.cell?_alloc_at (w := wr) #[Value.int .u64 ra, .int .u64 rb, .int .u64 rc, .int .u64 rd] 71 wr.heap.size 1 rfl
      have n2 := World.cell?_alloc_at (w := wr) #[Value.int .u64 ra, .int .u64 rb, .int .u64 rc, .int .u64 rd] 71 wr.heap.size 2 rfl
      have n3 := World.cell?_alloc_at (w := wr) #[Value.int .u64 ra, .int .u64 rb, .int .u64 rc, .int .u64 rd] 71 wr.heap.size 3 rfl
      have hUn := (Upd.refl [] wr).alloc (Obj.cells #[Value.int .u64 ra, .int .u64 rb, .int .u64 rc, .int .u64 rd] 71)
      generalize wr.alloc (Obj.cells #[Value.int .u64 ra, .int .u64 rb, .int .u64 rc, .int .u64 rd] 71) = W at *
      have g0 := hUn.cell1 e0 (by simp)
      have g1 := hUn.cell1 e1 (by simp)
      simp only [List.getElem?_toArray, List.getElem?_cons_zero, List.getElem?_cons_succ] at n0 n1 n2 n3
      have hHW := hH.kept hUn (by simp) (by simp)
      have hmeth := mapp_u256 p
      refine wp_region_split (S := Upd [] W) [(true, 0), (true, 1), (true, 2), (true, 3), (true, 4), (true, 6), (true, 7)] [5] [8] (by kernel_rfl) (by kernel_rfl) (fun _ _ d _ _ h => by cases d <;> exact h) ((Upd.refl _ _).drew) ?_
      simp only [readsAt, opersAt, Option.map_some, List.filterMap_cons, List.filterMap_nil, List.getElem?_toArray, List.getElem?_cons_succ, List.getElem?_cons_zero]
      iterate 7 (refine ⟨_, Or.inl ⟨by rfl, fun w' hS => by first | (have q0 := Upd.cell1 hS g0 (by simp); have q1 := Upd.cell1 hS g1 (by simp); have q2 := Upd.cell1 hS n0 (by simp); have q3 := Upd.cell1 hS n1 (by simp); have q4 := Upd.cell1 hS n2 (by simp); have q5 := Upd.cell1 hS n3 (by simp); first | (go_simp; done) | (go_simp; with_reducible rfl)) | (go_simp; done) | (go_simp; with_reducible rfl)⟩, ?_⟩; simp only [Act.put, List.setIfInBounds_toArray, List.set_cons_zero, List.set_cons_succ])
      intro L0 hL0
      rw [if_pos (by rfl)]
      go_simp; refine (vin_u256 ⟨ra, rb, rc, rd⟩ _).mono ?_; rintro e w1 ⟨rfl, hu1⟩
      refine hL0 _ _ ⟨hu1.ofDrew, ?_⟩
      clear hL0 L0
      try simp only [preThen]
      change wpList _ _ _ [_] _ _
      have hH1 := hHW.kept hu1.ofDrew (by simp) (by simp)
      have hUw := (hUn.trans hu1.ofDrew (fun _ h => .inl h))
      go_wp2_with (go_at_call 340; (with_reducible refine (vapp_u256 p _ _ _ _ _ _ hH1 (by omega)).mono ?_); rintro e w2 ⟨rfl, ao2, c2, hH2, hU2, hI2⟩)
      have hUx : Upd (p :: bk ao) W0 w2 := (hU.trans (hUw.mono (by simp) : Upd (p :: bk ao) wr w1) (fun _ h => .inl h)).trans hU2 (fun y hy => by
        rcases List.mem_cons.1 hy with h | h
        · exact .inl (by rw [h]; exact List.mem_cons_self)
        · rcases hI y h with h' | h'
          · exact .inl (List.mem_cons_of_mem _ h')
          · exact .inr h')
      have hIx : In (bk ao) W0.heap.size ao2 := hI.step hI2 (Nat.le_trans hU.size hUw.size)
      have hHx : Hold w2 p 252 253 4 ao2 (m + (k + 1)) c2 (xs ++ (rs.take (k + 1)).flatMap cells_u256) := by
        rw [flatMap_take_succ _ _ _ (by omega), ← HX.out, ← List.append_assoc]
        exact hH2
      clear hH2 hU2 hI2 hH1 hHW
      go_roundw
      case rel => exact ⟨k + 1, ao2, c2, by omega, by go_num, hHx, hUx, hIx⟩
      case measure => simp [intOf]; omega
    · have hk0 : n ≤ k := by omega
      obtain rfl : k = n := by omega
      go_wp2
      go_end0
      refine ⟨rfl, ao', c', ?_, (hU0.mono (by simp)).trans hU (fun _ h => .inl h), hI.le hU0.size⟩
      rw [List.take_of_length_le (by omega)] at hH
      exact hH
theorem at_u256 (p g n c : Nat) (rs : List R4) (i : Nat) (hi : i < rs.length) (w : World) (hrs : ∀ r ∈ rs, Ok4 r) (h : Hold w p 252 253 4 (some ⟨g, 0, none⟩) n c (rs.flatMap cells_u256)) (hl : rs.length = n) :
    Calls Tryz.prog 350 #[V_u256 p, .int .i64 i] w fun e w' => e = .returned (kept_u256 rs[i]).agg ∧ Upd [] w w' := by
  obtain ⟨r, hx⟩ : ∃ r, r = rs[i] := ⟨_, rfl⟩
  have hr : Ok4 r := hrs r (by rw [hx]; exact List.getElem_mem _)
  have hpc := flat_piece (m := 4) (h.own.view 0 _ (fun j v hj => by rw [Nat.zero_add]; exact hj)) (fun _ => by first | rfl | exact lowV_len _ _ _) i hi
  rw [← hx] at hpc ⊢
  rw [Nat.mul_comm] at hpc
  have hgl : g < w.heap.size := h.own.lt g (by simp)
  clear hx
  go_enter Tryz.func350, Tryz.ntmps350
  simp only [V_u256]
  go_wp2
  obtain ⟨k1, u1, s1⟩ := alloc_facts w (Obj.cells #[.iface 250 (.pointer (some ⟨p, 0, none⟩)), .func (Fn.func 87) #[] #[], .func (Fn.func 88) #[] #[]] 259)
  obtain ⟨k2, u2, s2⟩ := alloc_facts (w.alloc (Obj.cells #[.iface 250 (.pointer (some ⟨p, 0, none⟩)), .func (Fn.func 87) #[] #[], .func (Fn.func 88) #[] #[]] 259)) (Obj.cells #[.int .u64 0, .int .u64 0, .int .u64 0, .int .u64 0] 71)
  generalize (w.alloc (Obj.cells #[.iface 250 (.pointer (some ⟨p, 0, none⟩)), .func (Fn.func 87) #[] #[], .func (Fn.func 88) #[] #[]] 259)).alloc (Obj.cells #[.int .u64 0, .int .u64 0, .int .u64 0, .int .u64 0] 71) = W at *
  rw [s1] at k2 s2
  have u12 := u1.trans u2 (fun _ h => .inl h)
  have hh := h.kept u12 (by simp) (by simp)
  have kk := u2.at k1 (by simp)
  have q0 : W.cell? ⟨w.heap.size, 0, none⟩ = some (.iface 250 (.pointer (some ⟨p, 0, none⟩))) := by simp [World.cell?, kk]
  have q2 : W.cell? ⟨w.heap.size, 2, none⟩ = some (.func (Fn.func 88) #[] #[]) := by simp [World.cell?, kk]
  clear k1 u1 kk u2
  have hrow := (Upd.refl [] W).drew.range (u12.range hpc hgl (by simp)) (Nat.lt_of_lt_of_le hgl u12.size) (by simp)
  have hmr := mrow_u256 p W.drew _ hh.cell
  refine wp_region_split (S := Upd [] W) [(true, 0), (true, 1), (true, 2), (true, 3), (true, 4)] [5] [6, 7] (by kernel_rfl) (by kernel_rfl) (fun _ _ d _ _ h => by cases d <;> exact h) ((Upd.refl _ _).drew) ?_
  simp only [readsAt, opersAt, Option.map_some, List.filterMap_cons, List.filterMap_nil, List.getElem?_toArray, List.getElem?_cons_succ, List.getElem?_cons_zero]
  iterate 5 (refine ⟨_, Or.inl ⟨by rfl, fun w' hS => by first | (have e0 := Upd.cell1 hS q0 (by simp); have e1 := Upd.cell1 hS q2 (by simp); first | (go_simp; done) | (go_simp; with_reducible rfl)) | (go_simp; done) | (go_simp; with_reducible rfl)⟩, ?_⟩; simp only [Act.put, List.setIfInBounds_toArray, List.set_cons_zero, List.set_cons_succ])
  intro L0 hL0
  rw [if_pos (by rfl)]
  go_simp; refine (vrow_u256 g n c i r _ hrow (Nat.lt_of_lt_of_le hgl u12.size) (by omega)).mono ?_; rintro e w1 ⟨rfl, hu1⟩
  refine hL0 _ _ ⟨hu1.ofDrew, ?_⟩
  clear hL0 L0
  try simp only [preThen]
  change wpList _ _ _ [_, _] _ _
  have m1 := hu1.ofDrew.at k2 (by simp)
  go_wp2_with (first
    | (go_at_call 88; (refine (vout_u256 r hr _).mono ?_); rintro e w2 ⟨rfl, hu2⟩; have m2 := hu2.at m1 (by simp))
    | ((with_reducible show wpList _ _ _ _ _ _); refine wpList_store_blk rfl 71 (.tmp 4) (.tmp 11) rfl (b := w.heap.size + 1) rfl m2 (cs := (kept_u256 r).cells) rfl rfl (by kernel_rfl) (by simp [R4.cells, Value.oneCell']) ?_; intro w4 hb4 hu4; simp only [Act.put]))
  refine bodyPost_ret (results_cell1 Tryz.results350 (b := w.heap.size + 1) rfl (run_loadVar_mid w4 (w.heap.size + 1) 0 71 (kept_u256 r).cells _ (rangeAt_blk hb4) Tryz.underlying71 rfl (by kernel_rfl))) rfl ⟨rfl, ?_⟩
  exact ((u12.trans hu1.ofDrew (fun _ h => .inl h)).trans hu2 (fun _ h => .inl h)).trans hu4 (fun y hy => by simp at hy; exact .inr (by omega))
end Go.Proofs.YteimeeepcfcfcaaGreatDoor
