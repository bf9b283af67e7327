/- Rows of four words; numbersOf.add over them. -/
import Derived.Test.YtpehfhdacgjmpaaGreatCols
namespace Go.Proofs.YtpehfhdacgjmpaaGreat
open Go Go.RowKit
/-- a row: four words -/
structure R4 where
  a : Int
  b : Int
  c : Int
  d : Int
def R4.cells (r : R4) : List Value := [.int .u64 r.a, .int .u64 r.b, .int .u64 r.c, .int .u64 r.d]
theorem R4.cells_len (r : R4) : r.cells.length = 4 := rfl
def R4.agg (r : R4) : Value := .agg #[.int .u64 r.a, .int .u64 r.b, .int .u64 r.c, .int .u64 r.d]
theorem rows_get (rs : List R4) (k : Nat) (h : k < rs.length) (j : Nat) (hj : j < 4) : (rs.flatMap R4.cells)[k * 4 + j]? = rs[k].cells[j]? := by
  induction rs generalizing k with
  | nil => simp at h
  | cons r rs ih =>
    simp only [List.flatMap_cons]
    cases k with
    | zero => rw [List.getElem?_append_left (by simp [R4.cells_len]; omega)]; simp
    | succ k =>
      rw [List.getElem?_append_right (by simp [R4.cells_len]; omega)]
      simp only [R4.cells_len, List.getElem_cons_succ]
      rw [← ih k (by simpa using h)]
      congr 1
      omega

set_option maxRecDepth 100000 in
set_option maxHeartbeats 400000 in
theorem in_u64 (r : R4) (w : World) : Calls Tryz.prog 77 #[r.agg] w fun e w' => e = .returned (.int .u64 r.a) ∧ Upd [] w w' := by
  obtain ⟨a, b, c, d⟩ := r
  go_enter Tryz.func77, Tryz.ntmps77
  simp only [R4.agg]
  go_wp2
  go_ret
  exact ⟨rfl, (Upd.refl _ _).alloc _⟩
set_option maxRecDepth 100000 in
set_option maxHeartbeats 400000 in
theorem in_u16 (r : R4) (w : World) : Calls Tryz.prog 73 #[r.agg] w fun e w' => e = .returned (.int .u16 (IntKind.u16.wrap r.a)) ∧ Upd [] w w' := by
  obtain ⟨a, b, c, d⟩ := r
  go_enter Tryz.func73, Tryz.ntmps73
  simp only [R4.agg]
  go_wp2
  go_ret
  exact ⟨rfl, (Upd.refl _ _).alloc _⟩

def conv_u64 (r : R4) : Value := .int .u64 (r.a)
/-- the column of numbers over the variable p -/
def num_u64 (p : Nat) : Value := .agg #[.iface 200 (.pointer (some ⟨p, 0, none⟩)), .func (Fn.func 77) #[] #[], .func (Fn.func 78) #[] #[]]
theorem meth_u64_Append (p : Nat) (w : World) : (method 706 200 (.pointer (some ⟨p, 0, none⟩)) "Append").run Tryz.prog w = .ok (108, .pointer (some ⟨p, 0, none⟩)) w := by kernel_rfl

set_option maxRecDepth 100000 in
set_option maxHeartbeats 1000000 in
theorem add_u64 (p : Nat) (ar : Option Addr) (n c : Nat) (rs : List R4) (ao : Option Addr) (m cp : Nat) (xs : List Value) (w : World) (hr : View w 4 ar n (rs.flatMap R4.cells)) (hc : Hold w p 202 26 1 ao m cp xs)
    (hap : 0 < n → Apart ar p ao) (hn : n ≤ 1000) (hm : m ≤ 100000) :
    Calls Tryz.prog 332 #[num_u64 p, .slice ar n c] w fun e w' => e = .returned (.tuple #[]) ∧ Grew w w' p 202 26 1 ao (m + n) (xs ++ rs.map conv_u64) := by
  have hrl : rs.length = n := by have := hr.len; rw [flatMap_len _ 4 R4.cells_len] at this; omega
  have hpw := hc.lt
  go_enter Tryz.func332, Tryz.ntmps332
  simp only [num_u64]
  go_wp2
  have hcB : (w.alloc (Obj.cells #[.iface 200 (.pointer (some ⟨p, 0, none⟩)), .func (Fn.func 77) #[] #[], .func (Fn.func 78) #[] #[]] 208)).heap[w.heap.size]? = some (Obj.cells #[.iface 200 (.pointer (some ⟨p, 0, none⟩)), .func (Fn.func 77) #[] #[], .func (Fn.func 78) #[] #[]] 208) := heap_alloc_new _ _
  have hU0 := (Upd.refl [] w).alloc (Obj.cells #[.iface 200 (.pointer (some ⟨p, 0, none⟩)), .func (Fn.func 77) #[] #[], .func (Fn.func 78) #[] #[]] 208)
  have hBn : w.heap.size ∉ p :: bk ao := fun h => by
    rcases List.mem_cons.1 h with h | h
    · omega
    · have := hc.bk_lt _ h; omega
  have hBl := lt_of_block hcB
  generalize w.alloc (Obj.cells #[.iface 200 (.pointer (some ⟨p, 0, none⟩)), .func (Fn.func 77) #[] #[], .func (Fn.func 78) #[] #[]] 208) = W0 at *
  have hc0 := hc.kept hU0 (by simp) (by simp)
  have hr0 := hr.upd hU0 (by simp)
  go_loopw [8] (fun i wr => ∃ (k : Nat) (ao' : Option Addr) (c' : Nat), k ≤ n ∧ i = .int .i64 k ∧ Hold wr p 202 26 1 ao' (m + k) c' (xs ++ (rs.take k).map conv_u64) ∧ Upd (p :: bk ao) W0 wr ∧ In (bk ao) W0.heap.size ao')
    (fun i _ => n - (intOf i).toNat)
  case atStart => exact ⟨0, ao, cp, Nat.zero_le _, rfl, by simpa using hc0, Upd.refl _ _, In.self (fun _ h => h)⟩
  case round =>
    obtain ⟨k, ao', c', hk, rfl, hH, hU, hI⟩ := hrel
    by_cases hlt : k < n
    · have hk0 : ((k : Int) < n) := by omega
      obtain ⟨b, o, rfl, hrr, hbb⟩ := hr0.at_ (by omega)
      have hbn : b ∉ p :: bk ao := (hap (by omega)).not b (by simp)
      obtain ⟨r, hx⟩ : ∃ r, r = rs[k]'(by omega) := ⟨_, rfl⟩
      have hcell : ∀ j, j < 4 → wr.cell? ⟨b, o + k * 4 + j, none⟩ = r.cells[j]? := fun j hj => by
        rw [hU.cell hbb hbn, Nat.add_assoc]
        have h1 := rows_get rs k (by omega) j hj
        rw [← hx] at h1
        obtain ⟨u, hu⟩ : ∃ u, r.cells[j]? = some u := ⟨r.cells[j]'(by rw [R4.cells_len]; omega), by simp⟩
        rw [hu]
        exact hrr (k * 4 + j) u (h1.trans hu)
      have d0 := hcell 0 (by omega)
      have d1 := hcell 1 (by omega)
      have d2 := hcell 2 (by omega)
      have d3 := hcell 3 (by omega)
      have HX := Lib.hid hx
      clear hx hcell
      obtain ⟨ra, rb, rc, rd⟩ := r
      simp only [R4.cells, Nat.add_zero, List.getElem?_cons_zero, List.getElem?_cons_succ] at d0 d1 d2 d3
      have hB := hU.at hcB hBn
      have e0 : wr.cell? ⟨w.heap.size, 0, none⟩ = some (.iface 200 (.pointer (some ⟨p, 0, none⟩))) := by simp [World.cell?, hB]
      have e1 : wr.cell? ⟨w.heap.size, 1, none⟩ = some (.func (Fn.func 77) #[] #[]) := by simp [World.cell?, hB]
      have hBw := lt_of_block hB
      go_wp2
      have n0 := World.cell?_alloc_at (w := wr) #[Value.int .u64 ra, .int .u64 rb, .int .u64 rc, .int .u64 rd] 28 wr.heap.size 0 rfl
      have n1 := World.cell?_alloc_at (w := wr) #[Value.int .u64 ra, .int .u64 rb, .int .u64 rc, .int .u64 rd] 28 wr.heap.size 1 rfl
      have n2 := World.cell?_alloc_at (w := wr) #[Value.int .u64 ra, .int .u64 rb, .int .u64 rc, .int .u64 rd] 28 wr.heap.size 2 rfl
      have n3 := World.cell?_alloc_at (w := wr) #[Value.int .u64 ra, .int .u64 rb, .int .u64 rc, .int .u64 rd] 28 wr.heap.size 3 rfl
      have hUn := (Upd.refl [] wr).alloc (Obj.cells #[Value.int .u64 ra, .int .u64 rb, .int .u64 rc, .int .u64 rd] 28)
      generalize wr.alloc (Obj.cells #[Value.int .u64 ra, .int .u64 rb, .int .u64 rc, .int .u64 rd] 28) = W at *
      have g0 := hUn.cell1 e0 (by simp)
      have g1 := hUn.cell1 e1 (by simp)
      simp only [List.getElem?_toArray, List.getElem?_cons_zero, List.getElem?_cons_succ] at n0 n1 n2 n3
      have hHW := hH.kept hUn (by simp) (by simp)
      have hmeth := meth_u64_Append p
      refine wp_region_split (S := Upd [] W) [(true, 0), (true, 1), (true, 2), (true, 3), (true, 4), (true, 6), (true, 7)] [5] [8] (by kernel_rfl) (by kernel_rfl) (fun _ _ d _ _ h => by cases d <;> exact h) ((Upd.refl _ _).drew) ?_
      simp only [readsAt, opersAt, Option.map_some, List.filterMap_cons, List.filterMap_nil, List.getElem?_toArray, List.getElem?_cons_succ, List.getElem?_cons_zero]
      refine ⟨_, Or.inl ⟨by rfl, fun w' hS => by first | (go_simp; done) | (go_simp; with_reducible rfl)⟩, ?_⟩
      simp only [Act.put, List.setIfInBounds_toArray, List.set_cons_zero, List.set_cons_succ]
      refine ⟨_, Or.inl ⟨by rfl, fun w' hS => by have q0 := Upd.cell1 hS g0 (by simp); have q1 := Upd.cell1 hS g1 (by simp); have q2 := Upd.cell1 hS n0 (by simp); have q3 := Upd.cell1 hS n1 (by simp); have q4 := Upd.cell1 hS n2 (by simp); have q5 := Upd.cell1 hS n3 (by simp); first | (go_simp; done) | (go_simp; with_reducible rfl)⟩, ?_⟩
      simp only [Act.put, List.setIfInBounds_toArray, List.set_cons_zero, List.set_cons_succ]
      refine ⟨_, Or.inl ⟨by rfl, fun w' hS => by first | (go_simp; done) | (go_simp; with_reducible rfl)⟩, ?_⟩
      simp only [Act.put, List.setIfInBounds_toArray, List.set_cons_zero, List.set_cons_succ]
      refine ⟨_, Or.inl ⟨by rfl, fun w' hS => by have q0 := Upd.cell1 hS g0 (by simp); have q1 := Upd.cell1 hS g1 (by simp); have q2 := Upd.cell1 hS n0 (by simp); have q3 := Upd.cell1 hS n1 (by simp); have q4 := Upd.cell1 hS n2 (by simp); have q5 := Upd.cell1 hS n3 (by simp); first | (go_simp; done) | (go_simp; with_reducible rfl)⟩, ?_⟩
      simp only [Act.put, List.setIfInBounds_toArray, List.set_cons_zero, List.set_cons_succ]
      refine ⟨_, Or.inl ⟨by rfl, fun w' hS => by have q0 := Upd.cell1 hS g0 (by simp); have q1 := Upd.cell1 hS g1 (by simp); have q2 := Upd.cell1 hS n0 (by simp); have q3 := Upd.cell1 hS n1 (by simp); have q4 := Upd.cell1 hS n2 (by simp); have q5 := Upd.cell1 hS n3 (by simp); first | (go_simp; done) | (go_simp; with_reducible rfl)⟩, ?_⟩
      simp only [Act.put, List.setIfInBounds_toArray, List.set_cons_zero, List.set_cons_succ]
      refine ⟨_, Or.inl ⟨by rfl, fun w' hS => by first | (go_simp; done) | (go_simp; with_reducible rfl)⟩, ?_⟩
      simp only [Act.put, List.setIfInBounds_toArray, List.set_cons_zero, List.set_cons_succ]
      refine ⟨_, Or.inl ⟨by rfl, fun w' hS => by first | (go_simp; done) | (go_simp; with_reducible rfl)⟩, ?_⟩
      simp only [Act.put, List.setIfInBounds_toArray, List.set_cons_zero, List.set_cons_succ]
      intro L0 hL0
      rw [if_pos (by rfl)]
      go_simp; refine (in_u64 ⟨ra, rb, rc, rd⟩ _).mono ?_; rintro e w1 ⟨rfl, hu1⟩
      refine hL0 _ _ ⟨hu1.ofDrew, ?_⟩
      clear hL0 L0
      try simp only [preThen]
      change wpList _ _ _ [_] _ _
      have hH1 := hHW.kept hu1.ofDrew (by simp) (by simp)
      have hUw := (hUn.trans hu1.ofDrew (fun _ h => .inl h))
      go_wp2_with (go_at_call 108; (with_reducible refine (ColUInt64_Append p _ _ _ _ _ _ hH1 (by omega)).mono ?_); rintro e w2 ⟨rfl, ao2, c2, hH2, hU2, hI2⟩)
      have hUx : Upd (p :: bk ao) W0 w2 := (hU.trans (hUw.mono (by simp) : Upd (p :: bk ao) wr w1) (fun _ h => .inl h)).trans hU2 (fun y hy => by
        rcases List.mem_cons.1 hy with h | h
        · exact .inl (by rw [h]; exact List.mem_cons_self)
        · rcases hI y h with h' | h'
          · exact .inl (List.mem_cons_of_mem _ h')
          · exact .inr h')
      have hIx : In (bk ao) W0.heap.size ao2 := hI.step hI2 (Nat.le_trans hU.size hUw.size)
      have hHx : Hold w2 p 202 26 1 ao2 (m + (k + 1)) c2 (xs ++ (rs.take (k + 1)).map conv_u64) := by
        rw [List.take_succ_eq_append_getElem (by omega), ← HX.out, List.map_append, ← List.append_assoc]
        exact hH2
      clear hH2 hU2 hI2 hH1 hHW
      go_roundw
      case rel => exact ⟨k + 1, ao2, c2, by omega, by go_num, hHx, hUx, hIx⟩
      case measure => simp [intOf]; omega
    · have hk0 : n ≤ k := by omega
      obtain rfl : k = n := by omega
      go_wp2
      go_end0
      refine ⟨rfl, ao', c', ?_, (hU0.mono (by simp)).trans hU (fun _ h => .inl h), hI.le hU0.size⟩
      rw [List.take_of_length_le (by omega)] at hH
      exact hH
def conv_u16 (r : R4) : Value := .int .u16 (IntKind.u16.wrap r.a)
/-- the column of numbers over the variable p -/
def num_u16 (p : Nat) : Value := .agg #[.iface 185 (.pointer (some ⟨p, 0, none⟩)), .func (Fn.func 73) #[] #[], .func (Fn.func 74) #[] #[]]
theorem meth_u16_Append (p : Nat) (w : World) : (method 706 185 (.pointer (some ⟨p, 0, none⟩)) "Append").run Tryz.prog w = .ok (312, .pointer (some ⟨p, 0, none⟩)) w := by kernel_rfl

set_option maxRecDepth 100000 in
set_option maxHeartbeats 1000000 in
theorem add_u16 (p : Nat) (ar : Option Addr) (n c : Nat) (rs : List R4) (ao : Option Addr) (m cp : Nat) (xs : List Value) (w : World) (hr : View w 4 ar n (rs.flatMap R4.cells)) (hc : Hold w p 187 128 1 ao m cp xs)
    (hap : 0 < n → Apart ar p ao) (hn : n ≤ 1000) (hm : m ≤ 100000) :
    Calls Tryz.prog 321 #[num_u16 p, .slice ar n c] w fun e w' => e = .returned (.tuple #[]) ∧ Grew w w' p 187 128 1 ao (m + n) (xs ++ rs.map conv_u16) := by
  have hrl : rs.length = n := by have := hr.len; rw [flatMap_len _ 4 R4.cells_len] at this; omega
  have hpw := hc.lt
  go_enter Tryz.func321, Tryz.ntmps321
  simp only [num_u16]
  go_wp2
  have hcB : (w.alloc (Obj.cells #[.iface 185 (.pointer (some ⟨p, 0, none⟩)), .func (Fn.func 73) #[] #[], .func (Fn.func 74) #[] #[]] 193)).heap[w.heap.size]? = some (Obj.cells #[.iface 185 (.pointer (some ⟨p, 0, none⟩)), .func (Fn.func 73) #[] #[], .func (Fn.func 74) #[] #[]] 193) := heap_alloc_new _ _
  have hU0 := (Upd.refl [] w).alloc (Obj.cells #[.iface 185 (.pointer (some ⟨p, 0, none⟩)), .func (Fn.func 73) #[] #[], .func (Fn.func 74) #[] #[]] 193)
  have hBn : w.heap.size ∉ p :: bk ao := fun h => by
    rcases List.mem_cons.1 h with h | h
    · omega
    · have := hc.bk_lt _ h; omega
  have hBl := lt_of_block hcB
  generalize w.alloc (Obj.cells #[.iface 185 (.pointer (some ⟨p, 0, none⟩)), .func (Fn.func 73) #[] #[], .func (Fn.func 74) #[] #[]] 193) = W0 at *
  have hc0 := hc.kept hU0 (by simp) (by simp)
  have hr0 := hr.upd hU0 (by simp)
  go_loopw [8] (fun i wr => ∃ (k : Nat) (ao' : Option Addr) (c' : Nat), k ≤ n ∧ i = .int .i64 k ∧ Hold wr p 187 128 1 ao' (m + k) c' (xs ++ (rs.take k).map conv_u16) ∧ Upd (p :: bk ao) W0 wr ∧ In (bk ao) W0.heap.size ao')
    (fun i _ => n - (intOf i).toNat)
  case atStart => exact ⟨0, ao, cp, Nat.zero_le _, rfl, by simpa using hc0, Upd.refl _ _, In.self (fun _ h => h)⟩
  case round =>
    obtain ⟨k, ao', c', hk, rfl, hH, hU, hI⟩ := hrel
    by_cases hlt : k < n
    · have hk0 : ((k : Int) < n) := by omega
      obtain ⟨b, o, rfl, hrr, hbb⟩ := hr0.at_ (by omega)
      have hbn : b ∉ p :: bk ao := (hap (by omega)).not b (by simp)
      obtain ⟨r, hx⟩ : ∃ r, r = rs[k]'(by omega) := ⟨_, rfl⟩
      have hcell : ∀ j, j < 4 → wr.cell? ⟨b, o + k * 4 + j, none⟩ = r.cells[j]? := fun j hj => by
        rw [hU.cell hbb hbn, Nat.add_assoc]
        have h1 := rows_get rs k (by omega) j hj
        rw [← hx] at h1
        obtain ⟨u, hu⟩ : ∃ u, r.cells[j]? = some u := ⟨r.cells[j]'(by rw [R4.cells_len]; omega), by simp⟩
        rw [hu]
        exact hrr (k * 4 + j) u (h1.trans hu)
      have d0 := hcell 0 (by omega)
      have d1 := hcell 1 (by omega)
      have d2 := hcell 2 (by omega)
      have d3 := hcell 3 (by omega)
      have HX := Lib.hid hx
      clear hx hcell
      obtain ⟨ra, rb, rc, rd⟩ := r
      simp only [R4.cells, Nat.add_zero, List.getElem?_cons_zero, List.getElem?_cons_succ] at d0 d1 d2 d3
      have hB := hU.at hcB hBn
      have e0 : wr.cell? ⟨w.heap.size, 0, none⟩ = some (.iface 185 (.pointer (some ⟨p, 0, none⟩))) := by simp [World.cell?, hB]
      have e1 : wr.cell? ⟨w.heap.size, 1, none⟩ = some (.func (Fn.func 73) #[] #[]) := by simp [World.cell?, hB]
      have hBw := lt_of_block hB
      go_wp2
      have n0 := World.cell?_alloc_at (w := wr) #[Value.int .u64 ra, .int .u64 rb, .int .u64 rc, .int .u64 rd] 28 wr.heap.size 0 rfl
      have n1 := World.cell?_alloc_at (w := wr) #[Value.int .u64 ra, .int .u64 rb, .int .u64 rc, .int .u64 rd] 28 wr.heap.size 1 rfl
      have n2 := World.cell?_alloc_at (w := wr) #[Value.int .u64 ra, .int .u64 rb, .int .u64 rc, .int .u64 rd] 28 wr.heap.size 2 rfl
      have n3 := World.cell?_alloc_at (w := wr) #[Value.int .u64 ra, .int .u64 rb, .int .u64 rc, .int .u64 rd] 28 wr.heap.size 3 rfl
      have hUn := (Upd.refl [] wr).alloc (Obj.cells #[Value.int .u64 ra, .int .u64 rb, .int .u64 rc, .int .u64 rd] 28)
      generalize wr.alloc (Obj.cells #[Value.int .u64 ra, .int .u64 rb, .int .u64 rc, .int .u64 rd] 28) = W at *
      have g0 := hUn.cell1 e0 (by simp)
      have g1 := hUn.cell1 e1 (by simp)
      simp only [List.getElem?_toArray, List.getElem?_cons_zero, List.getElem?_cons_succ] at n0 n1 n2 n3
      have hHW := hH.kept hUn (by simp) (by simp)
      have hmeth := meth_u16_Append p
      refine wp_region_split (S := Upd [] W) [(true, 0), (true, 1), (true, 2), (true, 3), (true, 4), (true, 6), (true, 7)] [5] [8] (by kernel_rfl) (by kernel_rfl) (fun _ _ d _ _ h => by cases d <;> exact h) ((Upd.refl _ _).drew) ?_
      simp only [readsAt, opersAt, Option.map_some, List.filterMap_cons, List.filterMap_nil, List.getElem?_toArray, List.getElem?_cons_succ, List.getElem?_cons_zero]
      refine ⟨_, Or.inl ⟨by rfl, fun w' hS => by first | (go_simp; done) | (go_simp; with_reducible rfl)⟩, ?_⟩
      simp only [Act.put, List.setIfInBounds_toArray, List.set_cons_zero, List.set_cons_succ]
      refine ⟨_, Or.inl ⟨by rfl, fun w' hS => by have q0 := Upd.cell1 hS g0 (by simp); have q1 := Upd.cell1 hS g1 (by simp); have q2 := Upd.cell1 hS n0 (by simp); have q3 := Upd.cell1 hS n1 (by simp); have q4 := Upd.cell1 hS n2 (by simp); have q5 := Upd.cell1 hS n3 (by simp); first | (go_simp; done) | (go_simp; with_reducible rfl)⟩, ?_⟩
      simp only [Act.put, List.setIfInBounds_toArray, List.set_cons_zero, List.set_cons_succ]
      refine ⟨_, Or.inl ⟨by rfl, fun w' hS => by first | (go_simp; done) | (go_simp; with_reducible rfl)⟩, ?_⟩
      simp only [Act.put, List.setIfInBounds_toArray, List.set_cons_zero, List.set_cons_succ]
      refine ⟨_, Or.inl ⟨by rfl, fun w' hS => by have q0 := Upd.cell1 hS g0 (by simp); have q1 := Upd.cell1 hS g1 (by simp); have q2 := Upd.cell1 hS n0 (by simp); have q3 := Upd.cell1 hS n1 (by simp); have q4 := Upd.cell1 hS n2 (by simp); have q5 := Upd.cell1 hS n3 (by simp); first | (go_simp; done) | (go_simp; with_reducible rfl)⟩, ?_⟩
      simp only [Act.put, List.setIfInBounds_toArray, List.set_cons_zero, List.set_cons_succ]
      refine ⟨_, Or.inl ⟨by rfl, fun w' hS => by have q0 := Upd.cell1 hS g0 (by simp); have q1 := Upd.cell1 hS g1 (by simp); have q2 := Upd.cell1 hS n0 (by simp); have q3 := Upd.cell1 hS n1 (by simp); have q4 := Upd.cell1 hS n2 (by simp); have q5 := Upd.cell1 hS n3 (by simp); first | (go_simp; done) | (go_simp; with_reducible rfl)⟩, ?_⟩
      simp only [Act.put, List.setIfInBounds_toArray, List.set_cons_zero, List.set_cons_succ]
      refine ⟨_, Or.inl ⟨by rfl, fun w' hS => by first | (go_simp; done) | (go_simp; with_reducible rfl)⟩, ?_⟩
      simp only [Act.put, List.setIfInBounds_toArray, List.set_cons_zero, List.set_cons_succ]
      refine ⟨_, Or.inl ⟨by rfl, fun w' hS => by first | (go_simp; done) | (go_simp; with_reducible rfl)⟩, ?_⟩
      simp only [Act.put, List.setIfInBounds_toArray, List.set_cons_zero, List.set_cons_succ]
      intro L0 hL0
      rw [if_pos (by rfl)]
      go_simp; refine (in_u16 ⟨ra, rb, rc, rd⟩ _).mono ?_; rintro e w1 ⟨rfl, hu1⟩
      refine hL0 _ _ ⟨hu1.ofDrew, ?_⟩
      clear hL0 L0
      try simp only [preThen]
      change wpList _ _ _ [_] _ _
      have hH1 := hHW.kept hu1.ofDrew (by simp) (by simp)
      have hUw := (hUn.trans hu1.ofDrew (fun _ h => .inl h))
      go_wp2_with (go_at_call 312; (with_reducible refine (ColUInt16_Append p _ _ _ _ _ _ hH1 (by omega)).mono ?_); rintro e w2 ⟨rfl, ao2, c2, hH2, hU2, hI2⟩)
      have hUx : Upd (p :: bk ao) W0 w2 := (hU.trans (hUw.mono (by simp) : Upd (p :: bk ao) wr w1) (fun _ h => .inl h)).trans hU2 (fun y hy => by
        rcases List.mem_cons.1 hy with h | h
        · exact .inl (by rw [h]; exact List.mem_cons_self)
        · rcases hI y h with h' | h'
          · exact .inl (List.mem_cons_of_mem _ h')
          · exact .inr h')
      have hIx : In (bk ao) W0.heap.size ao2 := hI.step hI2 (Nat.le_trans hU.size hUw.size)
      have hHx : Hold w2 p 187 128 1 ao2 (m + (k + 1)) c2 (xs ++ (rs.take (k + 1)).map conv_u16) := by
        rw [List.take_succ_eq_append_getElem (by omega), ← HX.out, List.map_append, ← List.append_assoc]
        exact hH2
      clear hH2 hU2 hI2 hH1 hHW
      go_roundw
      case rel => exact ⟨k + 1, ao2, c2, by omega, by go_num, hHx, hUx, hIx⟩
      case measure => simp [intOf]; omega
    · have hk0 : n ≤ k := by omega
      obtain rfl : k = n := by omega
      go_wp2
      go_end0
      refine ⟨rfl, ao', c', ?_, (hU0.mono (by simp)).trans hU (fun _ h => .inl h), hI.le hU0.size⟩
      rw [List.take_of_length_le (by omega)] at hH
      exact hH
end Go.Proofs.YtpehfhdacgjmpaaGreat
