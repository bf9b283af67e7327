/- Texts: what a text becomes in a column, and the columns' add. -/
import Derived.Test.YtpehfhdacgjmpaaGreatIn
import Derived.Laws.Cover3
namespace Go.Proofs.YtpehfhdacgjmpaaGreat
open Go Go.RowKit
theorem wpList_sliceArr {P : Program} {w : World} {ops : Array Oper} {rest : List Oper} {o : Oper} {a : Act} {Q : Exit → Act → World → Prop} (hgd : o.guard = none) (T e : TypeId) (N : Nat) (x : Operand) (ho : o.op = .sliceToArrayPointer T x)
    (hu : P.underlying T = some (.array N e)) {ad : Option Addr} {n c : Nat} (hx : a.eval x = .slice ad n c) (hn : N ≤ n) (h : wpList P ops Q rest (a.put o.dst (.pointer ad)) w) : wpList P ops Q (o :: rest) a w := by
  refine wpList_plain hgd fun K hK => ?_
  unfold Oper.wp execOp
  simp only [ho, hx, Sem.run_bind, run_arrayAt w T e N ad n c hu hn, Result.andThen_ok, Sem.run_pure]
  exact hK _ _ h
set_option maxRecDepth 100000 in
set_option maxHeartbeats 400000 in
theorem in_same (v : Value) (w : World) : Calls Tryz.prog 83 #[v] w fun e w' => e = .returned v ∧ w' = w := by
  go_enter Tryz.func83, Tryz.ntmps83
  go_wp2
  go_ret
  exact ⟨rfl, rfl⟩

set_option maxRecDepth 100000 in
set_option maxHeartbeats 400000 in
theorem in_arr8 (ao : Option Addr) (c : Nat) (xs : List Value) (w : World) (hv : View w 1 ao 8 xs) (hx1 : ∀ u ∈ xs, u.oneCell' = true) :
    Calls Tryz.prog 85 #[.slice ao 8 c] w fun e w' => e = .returned (.agg xs.toArray) ∧ Upd [] w w' := by
  have hl : xs.length = 8 := by have := hv.len; omega
  obtain ⟨b, o, rfl, hrr, hbb⟩ := hv.at_ (by omega)
  go_enter Tryz.func85, Tryz.ntmps85
  obtain ⟨k1, u1, s1⟩ := alloc_facts w (Obj.cells (Array.replicate 8 (.int .u8 0)) 237)
  have hr1 := Upd.range u1 hrr hbb (by simp)
  have hs : (Tryz.prog.info? 237).map (·.size) = some xs.length := by rw [hl]; exact size_ColFixedStr8
  go_wp2_with (first
    | ((with_reducible show wpList _ _ _ _ _ _); refine wpList_sliceArr rfl 237 5 8 (.tmp 3) rfl Tryz.underlying237 rfl (Nat.le_refl _) ?_; simp only [Act.put])
    | ((with_reducible show wpList _ _ _ _ _ _); refine wpList_load_mid rfl 237 (.tmp 4) rfl b o rfl xs _ hr1 Tryz.underlying237 rfl hs ?_)
    | ((with_reducible show wpList _ _ _ _ _ _); refine wpList_store_blk rfl 237 (.tmp 2) (.tmp 5) rfl (b := w.heap.size) rfl k1 rfl (by rw [hl]; rfl) hs hx1 ?_; intro w3 hb3 hu3; simp only [Act.put]))
  refine bodyPost_ret (v := .agg xs.toArray) (results_cell1 Tryz.results85 (b := w.heap.size) rfl (run_loadVar_mid w3 w.heap.size 0 237 xs _ (rangeAt_blk hb3) Tryz.underlying237 rfl hs)) rfl ⟨rfl, ?_⟩
  exact u1.trans hu3 (fun y hy => by simp at hy; exact .inr (by omega))
set_option maxRecDepth 100000 in
set_option maxHeartbeats 400000 in
theorem in_arr16 (ao : Option Addr) (c : Nat) (xs : List Value) (w : World) (hv : View w 1 ao 16 xs) (hx1 : ∀ u ∈ xs, u.oneCell' = true) :
    Calls Tryz.prog 87 #[.slice ao 16 c] w fun e w' => e = .returned (.agg xs.toArray) ∧ Upd [] w w' := by
  have hl : xs.length = 16 := by have := hv.len; omega
  obtain ⟨b, o, rfl, hrr, hbb⟩ := hv.at_ (by omega)
  go_enter Tryz.func87, Tryz.ntmps87
  obtain ⟨k1, u1, s1⟩ := alloc_facts w (Obj.cells (Array.replicate 16 (.int .u8 0)) 247)
  have hr1 := Upd.range u1 hrr hbb (by simp)
  have hs : (Tryz.prog.info? 247).map (·.size) = some xs.length := by rw [hl]; exact size_ColFixedStr16
  go_wp2_with (first
    | ((with_reducible show wpList _ _ _ _ _ _); refine wpList_sliceArr rfl 247 5 16 (.tmp 3) rfl Tryz.underlying247 rfl (Nat.le_refl _) ?_; simp only [Act.put])
    | ((with_reducible show wpList _ _ _ _ _ _); refine wpList_load_mid rfl 247 (.tmp 4) rfl b o rfl xs _ hr1 Tryz.underlying247 rfl hs ?_)
    | ((with_reducible show wpList _ _ _ _ _ _); refine wpList_store_blk rfl 247 (.tmp 2) (.tmp 5) rfl (b := w.heap.size) rfl k1 rfl (by rw [hl]; rfl) hs hx1 ?_; intro w3 hb3 hu3; simp only [Act.put]))
  refine bodyPost_ret (v := .agg xs.toArray) (results_cell1 Tryz.results87 (b := w.heap.size) rfl (run_loadVar_mid w3 w.heap.size 0 247 xs _ (rangeAt_blk hb3) Tryz.underlying247 rfl hs)) rfl ⟨rfl, ?_⟩
  exact u1.trans hu3 (fun y hy => by simp at hy; exact .inr (by omega))
/-- the column of addresses over the variable p -/
def conv_ip (r : R4) : List Value := lowV r.a r.b 16
def num_ip (p : Nat) : Value := .agg #[.iface 391 (.pointer (some ⟨p, 0, none⟩)), .func (Fn.func 122) #[] #[], .func (Fn.func 124) #[] #[]]
theorem meth_ip_Append (p : Nat) (w : World) : (method 706 391 (.pointer (some ⟨p, 0, none⟩)) "Append").run Tryz.prog w = .ok (551, .pointer (some ⟨p, 0, none⟩)) w := by kernel_rfl

set_option maxRecDepth 100000 in
set_option maxHeartbeats 1000000 in
theorem add_ip (p : Nat) (ar : Option Addr) (n c : Nat) (rs : List R4) (ao : Option Addr) (m cp : Nat) (xs : List Value) (w : World) (hr : View w 4 ar n (rs.flatMap R4.cells)) (hc : Hold w p 393 394 16 ao m cp xs)
    (hap : 0 < n → Apart ar p ao) (hn : n ≤ 1000) (hm : m ≤ 100000) :
    Calls Tryz.prog 562 #[num_ip p, .slice ar n c] w fun e w' => e = .returned (.tuple #[]) ∧ Grew w w' p 393 394 16 ao (m + n) (xs ++ rs.flatMap conv_ip) := by
  have hrl : rs.length = n := by have := hr.len; rw [flatMap_len _ 4 R4.cells_len] at this; omega
  have hpw := hc.lt
  go_enter Tryz.func562, Tryz.ntmps562
  simp only [num_ip]
  go_wp2
  have hcB : (w.alloc (Obj.cells #[.iface 391 (.pointer (some ⟨p, 0, none⟩)), .func (Fn.func 122) #[] #[], .func (Fn.func 124) #[] #[]] 402)).heap[w.heap.size]? = some (Obj.cells #[.iface 391 (.pointer (some ⟨p, 0, none⟩)), .func (Fn.func 122) #[] #[], .func (Fn.func 124) #[] #[]] 402) := heap_alloc_new _ _
  have hU0 := (Upd.refl [] w).alloc (Obj.cells #[.iface 391 (.pointer (some ⟨p, 0, none⟩)), .func (Fn.func 122) #[] #[], .func (Fn.func 124) #[] #[]] 402)
  have hBn : w.heap.size ∉ p :: bk ao := fun h => by
    rcases List.mem_cons.1 h with h | h
    · omega
    · have := hc.bk_lt _ h; omega
  have hBl := lt_of_block hcB
  generalize w.alloc (Obj.cells #[.iface 391 (.pointer (some ⟨p, 0, none⟩)), .func (Fn.func 122) #[] #[], .func (Fn.func 124) #[] #[]] 402) = W0 at *
  have hc0 := hc.kept hU0 (by simp) (by simp)
  have hr0 := hr.upd hU0 (by simp)
  go_loopw [8] (fun i wr => ∃ (k : Nat) (ao' : Option Addr) (c' : Nat), k ≤ n ∧ i = .int .i64 k ∧ Hold wr p 393 394 16 ao' (m + k) c' (xs ++ (rs.take k).flatMap conv_ip) ∧ Upd (p :: bk ao) W0 wr ∧ In (bk ao) W0.heap.size ao')
    (fun i _ => n - (intOf i).toNat)
  case atStart => exact ⟨0, ao, cp, Nat.zero_le _, rfl, by simpa using hc0, Upd.refl _ _, In.self (fun _ h => h)⟩
  case round =>
    obtain ⟨k, ao', c', hk, rfl, hH, hU, hI⟩ := hrel
    by_cases hlt : k < n
    · have hk0 : ((k : Int) < n) := by omega
      obtain ⟨b, o, rfl, hrr, hbb⟩ := hr0.at_ (by omega)
      have hbn : b ∉ p :: bk ao := (hap (by omega)).not b (by simp)
      obtain ⟨r, hx⟩ : ∃ r, r = rs[k]'(by omega) := ⟨_, rfl⟩
      have hcell : ∀ j, j < 4 → wr.cell? ⟨b, o + k * 4 + j, none⟩ = r.cells[j]? := fun j hj => by
        rw [hU.cell hbb hbn, Nat.add_assoc]
        have h1 := rows_get rs k (by omega) j hj
        rw [← hx] at h1
        obtain ⟨u, hu⟩ : ∃ u, r.cells[j]? = some u := ⟨r.cells[j]'(by rw [R4.cells_len]; omega), by simp⟩
        rw [hu]
        exact hrr (k * 4 + j) u (h1.trans hu)
      have d0 := hcell 0 (by omega)
      have d1 := hcell 1 (by omega)
      have d2 := hcell 2 (by omega)
      have d3 := hcell 3 (by omega)
      have HX := Lib.hid hx
      clear hx hcell
      obtain ⟨ra, rb, rc, rd⟩ := r
      simp only [R4.cells, Nat.add_zero, List.getElem?_cons_zero, List.getElem?_cons_succ] at d0 d1 d2 d3
      have hB := hU.at hcB hBn
      have e0 : wr.cell? ⟨w.heap.size, 0, none⟩ = some (.iface 391 (.pointer (some ⟨p, 0, none⟩))) := by simp [World.cell?, hB]
      have e1 : wr.cell? ⟨w.heap.size, 1, none⟩ = some (.func (Fn.func 122) #[] #[]) := by simp [World.cell?, hB]
      have hBw := lt_of_block hB
      go_wp2
      have n0 := World.cell?_alloc_at (w := wr) #[Value.int .u64 ra, .int .u64 rb, .int .u64 rc, .int .u64 rd] 28 wr.heap.size 0 rfl
      have n1 := World.cell?_alloc_at (w := wr) #[Value.int .u64 ra, .int .u64 rb, .int .u64 rc, .int .u64 rd] 28 wr.heap.size 1 rfl
      have n2 := World.cell?_alloc_at (w := wr) #[Value.int .u64 ra, .int .u64 rb, .int .u64 rc, .int .u64 rd] 28 wr.heap.size 2 rfl
      have n3 := World.cell?_alloc_at (w := wr) #[Value.int .u64 ra, .int .u64 rb, .int .u64 rc, .int .u64 rd] 28 wr.heap.size 3 rfl
      have hUn := (Upd.refl [] wr).alloc (Obj.cells #[Value.int .u64 ra, .int .u64 rb, .int .u64 rc, .int .u64 rd] 28)
      generalize wr.alloc (Obj.cells #[Value.int .u64 ra, .int .u64 rb, .int .u64 rc, .int .u64 rd] 28) = W at *
      have g0 := hUn.cell1 e0 (by simp)
      have g1 := hUn.cell1 e1 (by simp)
      simp only [List.getElem?_toArray, List.getElem?_cons_zero, List.getElem?_cons_succ] at n0 n1 n2 n3
      have hHW := hH.kept hUn (by simp) (by simp)
      have hmeth := meth_ip_Append p
      refine wp_region_split (S := Upd [] W) [(true, 0), (true, 1), (true, 2), (true, 3), (true, 4), (true, 6), (true, 7)] [5] [8] (by kernel_rfl) (by kernel_rfl) (fun _ _ d _ _ h => by cases d <;> exact h) ((Upd.refl _ _).drew) ?_
      simp only [readsAt, opersAt, Option.map_some, List.filterMap_cons, List.filterMap_nil, List.getElem?_toArray, List.getElem?_cons_succ, List.getElem?_cons_zero]
      refine ⟨_, Or.inl ⟨by rfl, fun w' hS => by first | (go_simp; done) | (go_simp; with_reducible rfl)⟩, ?_⟩
      simp only [Act.put, List.setIfInBounds_toArray, List.set_cons_zero, List.set_cons_succ]
      refine ⟨_, Or.inl ⟨by rfl, fun w' hS => by have q0 := Upd.cell1 hS g0 (by simp); have q1 := Upd.cell1 hS g1 (by simp); have q2 := Upd.cell1 hS n0 (by simp); have q3 := Upd.cell1 hS n1 (by simp); have q4 := Upd.cell1 hS n2 (by simp); have q5 := Upd.cell1 hS n3 (by simp); first | (go_simp; done) | (go_simp; with_reducible rfl)⟩, ?_⟩
      simp only [Act.put, List.setIfInBounds_toArray, List.set_cons_zero, List.set_cons_succ]
      refine ⟨_, Or.inl ⟨by rfl, fun w' hS => by first | (go_simp; done) | (go_simp; with_reducible rfl)⟩, ?_⟩
      simp only [Act.put, List.setIfInBounds_toArray, List.set_cons_zero, List.set_cons_succ]
      refine ⟨_, Or.inl ⟨by rfl, fun w' hS => by have q0 := Upd.cell1 hS g0 (by simp); have q1 := Upd.cell1 hS g1 (by simp); have q2 := Upd.cell1 hS n0 (by simp); have q3 := Upd.cell1 hS n1 (by simp); have q4 := Upd.cell1 hS n2 (by simp); have q5 := Upd.cell1 hS n3 (by simp); first | (go_simp; done) | (go_simp; with_reducible rfl)⟩, ?_⟩
      simp only [Act.put, List.setIfInBounds_toArray, List.set_cons_zero, List.set_cons_succ]
      refine ⟨_, Or.inl ⟨by rfl, fun w' hS => by have q0 := Upd.cell1 hS g0 (by simp); have q1 := Upd.cell1 hS g1 (by simp); have q2 := Upd.cell1 hS n0 (by simp); have q3 := Upd.cell1 hS n1 (by simp); have q4 := Upd.cell1 hS n2 (by simp); have q5 := Upd.cell1 hS n3 (by simp); first | (go_simp; done) | (go_simp; with_reducible rfl)⟩, ?_⟩
      simp only [Act.put, List.setIfInBounds_toArray, List.set_cons_zero, List.set_cons_succ]
      refine ⟨_, Or.inl ⟨by rfl, fun w' hS => by first | (go_simp; done) | (go_simp; with_reducible rfl)⟩, ?_⟩
      simp only [Act.put, List.setIfInBounds_toArray, List.set_cons_zero, List.set_cons_succ]
      refine ⟨_, Or.inl ⟨by rfl, fun w' hS => by first | (go_simp; done) | (go_simp; with_reducible rfl)⟩, ?_⟩
      simp only [Act.put, List.setIfInBounds_toArray, List.set_cons_zero, List.set_cons_succ]
      intro L0 hL0
      rw [if_pos (by rfl)]
      go_simp; refine (in_ip ⟨ra, rb, rc, rd⟩ _).mono ?_; rintro e w1 ⟨rfl, hu1⟩
      refine hL0 _ _ ⟨hu1.ofDrew, ?_⟩
      clear hL0 L0
      try simp only [preThen]
      change wpList _ _ _ [_] _ _
      have hH1 := hHW.kept hu1.ofDrew (by simp) (by simp)
      have hUw := (hUn.trans hu1.ofDrew (fun _ h => .inl h))
      go_wp2_with (go_at_call 551; (with_reducible refine (ColIPv6_Append p _ _ _ _ _ _ hH1 (by omega) (lowV_len _ _ _) (lowV_bytes _ _ _).one).mono ?_); rintro e w2 ⟨rfl, ao2, c2, hH2, hU2, hI2⟩)
      have hUx : Upd (p :: bk ao) W0 w2 := (hU.trans (hUw.mono (by simp) : Upd (p :: bk ao) wr w1) (fun _ h => .inl h)).trans hU2 (fun y hy => by
        rcases List.mem_cons.1 hy with h | h
        · exact .inl (by rw [h]; exact List.mem_cons_self)
        · rcases hI y h with h' | h'
          · exact .inl (List.mem_cons_of_mem _ h')
          · exact .inr h')
      have hIx : In (bk ao) W0.heap.size ao2 := hI.step hI2 (Nat.le_trans hU.size hUw.size)
      have hHx : Hold w2 p 393 394 16 ao2 (m + (k + 1)) c2 (xs ++ (rs.take (k + 1)).flatMap conv_ip) := by
        rw [flatMap_take_succ _ _ _ (by omega), ← HX.out, ← List.append_assoc]
        exact hH2
      clear hH2 hU2 hI2 hH1 hHW
      go_roundw
      case rel => exact ⟨k + 1, ao2, c2, by omega, by go_num, hHx, hUx, hIx⟩
      case measure => simp [intOf]; omega
    · have hk0 : n ≤ k := by omega
      obtain rfl : k = n := by omega
      go_wp2
      go_end0
      refine ⟨rfl, ao', c', ?_, (hU0.mono (by simp)).trans hU (fun _ h => .inl h), hI.le hU0.size⟩
      rw [List.take_of_length_le (by omega)] at hH
      exact hH

/-! ### a variable of more cells than its slice -/
/-- the block p holds a slice and the cells tl; the slice owns a row whose first cells are xs -/
structure HoldT (w : World) (p : Nat) (T e : TypeId) (tl : List Value) (size : Nat) (ao : Option Addr) (n c : Nat) (xs : List Value) : Prop where
  blk : w.heap[p]? = some (.cells (.slice ao n c :: tl).toArray T (0, 0))
  own : Row w e size ao n c xs
  ne : p ∉ bk ao
section
variable {w w1 : World} {p : Nat} {T e : TypeId} {tl : List Value} {size : Nat} {ao : Option Addr} {n c : Nat} {xs : List Value}
theorem HoldT.lt (h : HoldT w p T e tl size ao n c xs) : p < w.heap.size := lt_of_block h.blk
theorem HoldT.bk_lt (h : HoldT w p T e tl size ao n c xs) : ∀ x, x ∈ bk ao → x < w.heap.size := h.own.lt
theorem HoldT.cell (h : HoldT w p T e tl size ao n c xs) : w.cell? ⟨p, 0, none⟩ = some (.slice ao n c) := by simp [World.cell?, h.blk]
theorem HoldT.cellN (h : HoldT w p T e tl size ao n c xs) (k : Nat) {v : Value} (hk : tl[k]? = some v) : w.cell? ⟨p, k + 1, none⟩ = some v := by simp [World.cell?, h.blk, hk]
theorem HoldT.free (h : HoldT w p T e tl size ao n c xs) (k : Nat) : w.frozen? ⟨p, k, none⟩ = false := by simp [World.frozen?, h.blk]
theorem HoldT.in (h : HoldT w p T e tl size ao n c xs) {ao' : Option Addr} (hi : In (bk ao) w.heap.size ao') : p ∉ bk ao' := by
  intro hg
  rcases hi p hg with h1 | h1
  · exact h.ne h1
  · have := h.lt; omega
theorem HoldT.kept (h : HoldT w p T e tl size ao n c xs) {F : List Nat} (hu : Upd F w w1) (hp : p ∉ F) (hF : ∀ x, x ∈ bk ao → x ∉ F) : HoldT w1 p T e tl size ao n c xs := ⟨hu.at h.blk hp, h.own.upd hu hF, h.ne⟩
theorem HoldT.blk1 (h : HoldT w p T e tl size ao n c xs) (hu : Upd (bk ao) w w1) : w1.heap[p]? = some (.cells (.slice ao n c :: tl).toArray T (0, 0)) := hu.at h.blk h.ne
theorem HoldT.cell1 (h : HoldT w p T e tl size ao n c xs) (hu : Upd (bk ao) w w1) : w1.cell? ⟨p, 0, none⟩ = some (.slice ao n c) := by simp [World.cell?, h.blk1 hu]
theorem HoldT.free1 (h : HoldT w p T e tl size ao n c xs) (hu : Upd (bk ao) w w1) : w1.frozen? ⟨p, 0, none⟩ = false := by simp [World.frozen?, h.blk1 hu]
theorem HoldT.after (h : HoldT w p T e tl size ao n c xs) {ao' : Option Addr} {m c' : Nat} {ys : List Value}
    (ho : Row w1 e size ao' m c' ys) (hu : Upd (bk ao) w w1) (hi : In (bk ao) w.heap.size ao') : HoldT (w1.setCell ⟨p, 0, none⟩ (.slice ao' m c')) p T e tl size ao' m c' ys := by
  have hne := h.in hi
  refine ⟨?_, ownsRow_setCell_other ho (by cases ao' <;> simp_all [Value.ownBlock, eq_comm]) _, hne⟩
  rw [heap_setCell_same w1 p 0 _ _ _ (h.blk1 hu)]
  simp
theorem HoldT.upd (_h : HoldT w p T e tl size ao n c xs) (hu : Upd (bk ao) w w1) (u : Value) : Upd (p :: bk ao) w (w1.setCell ⟨p, 0, none⟩ u) := (hu.mono (by simp +contextual)).setCell _ (by simp)
end
/-- how a variable has grown: behind w it holds n elements, ys -/
def GrewT (w w' : World) (p : Nat) (T e : TypeId) (tl : List Value) (size : Nat) (ao : Option Addr) (n : Nat) (ys : List Value) : Prop :=
  ∃ ao' c', HoldT w' p T e tl size ao' n c' ys ∧ Upd (p :: bk ao) w w' ∧ In (bk ao) w.heap.size ao'

set_option maxRecDepth 100000 in
set_option maxHeartbeats 400000 in
theorem ColFixedStr_Append (p S : Nat) (ao : Option Addr) (n c : Nat) (xs : List Value) (ax : Option Addr) (cx : Nat) (x : List Value) (w : World) (h : HoldT w p 233 5 [.int .i64 S] 1 ao n c xs)
    (hx : View w 1 ax S x) (hx1 : ∀ u ∈ x, u.oneCell' = true) (hS : 0 < S ∧ S ≤ 1000) (hn : n ≤ 1000000) :
    Calls Tryz.prog 363 #[.pointer (some ⟨p, 0, none⟩), .slice ax S cx] w fun e w' => e = .returned (.tuple #[]) ∧ GrewT w w' p 233 5 [.int .i64 S] 1 ao (n + S) (xs ++ x) := by
  have hc := h.cell
  have hc' := h.cellN 0 (v := .int .i64 S) rfl
  have hl := hx.len
  obtain ⟨b, o, rfl, hr, hb⟩ := hx.at_ hS.1
  have h0 : (((S : Nat) : Int) == 0) = false := beq_eq_false_iff_ne.2 (by omega)
  go_enter Tryz.func363, Tryz.ntmps363
  go_wp2_with (at_builtin; refine wpList_app _ rfl (.tmp 26) (.tmp 27) 29 29 rfl 5 (.int .u8 0) 1 1 Tryz.underlying29 Tryz.info5 rfl (by decide) h.own rfl (Src.ofRange Tryz.underlying29 (by omega) hr hx1) rfl (by decide) (by omega) ?_; intro ao1 c1 w1 hown1 hupd1 hin1; have hc1 := h.cell1 hupd1; have hf1 := h.free1 hupd1)
  go_end0
  exact ⟨rfl, _, _, h.after hown1 hupd1 hin1, h.upd hupd1 _, hin1⟩

set_option maxRecDepth 100000 in
set_option maxHeartbeats 400000 in
theorem ColFixedStr_EncodeColumn (ac : Option Addr) (n cc S : Nat) (xs : List Value) (bp : Nat) (ao : Option Addr) (m cp : Nat) (bs : List Value) (w : World) (hc : View w 1 ac n xs) (hx1 : ∀ u ∈ xs, u.oneCell' = true) (hb : Hold w bp 210 5 1 ao m cp bs)
    (hac : ∀ x, x ∈ bk ac → x < w.heap.size) (hn : n ≤ 1000000) (hm : m ≤ 100000000) :
    Calls Tryz.prog 366 #[.agg #[.slice ac n cc, .int .i64 S], .pointer (some ⟨bp, 0, none⟩)] w fun e w' => e = .returned (.tuple #[]) ∧ Grew w w' bp 210 5 1 ao (m + n) (bs ++ xs) := by
  have hc0 := hb.cell
  go_enter Tryz.func366, Tryz.ntmps366
  go_wp2
  obtain ⟨k1, u1, s1⟩ := alloc_facts w (Obj.cells #[.slice ac n cc, .int .i64 S] 233)
  have hh := hb.kept u1 (by simp) (by simp)
  have hcv := hc.upd u1 (by simp)
  have q0 : (w.alloc (Obj.cells #[.slice ac n cc, .int .i64 S] 233)).cell? ⟨w.heap.size, 0, none⟩ = some (.slice ac n cc) := by simp only [World.cell?, k1]; rfl
  generalize w.alloc (Obj.cells #[.slice ac n cc, .int .i64 S] 233) = W at *
  have hc' := hh.cell
  clear hc0 k1
  refine wp_region_split (S := Upd [] W) [(false, 0), (true, 1), (true, 2), (true, 3), (true, 4), (true, 5), (true, 6)] [] [7, 8, 9, 10] (by kernel_rfl) (by kernel_rfl) (fun _ _ d _ _ h => by cases d <;> exact h) ((Upd.refl _ _).drew) ?_
  simp only [readsAt, opersAt, Option.map_some, List.filterMap_cons, List.filterMap_nil, List.getElem?_toArray, List.getElem?_cons_succ, List.getElem?_cons_zero]
  refine ⟨_, Or.inl ⟨by rfl, fun w' hS => by first | (go_simp; done) | (go_simp; with_reducible rfl)⟩, ?_⟩
  simp only [Act.put, List.setIfInBounds_toArray, List.set_cons_zero, List.set_cons_succ]
  refine ⟨_, Or.inl ⟨by rfl, fun w' hS => by first | (go_simp; done) | (go_simp; with_reducible rfl)⟩, ?_⟩
  simp only [Act.put, List.setIfInBounds_toArray, List.set_cons_zero, List.set_cons_succ]
  refine ⟨_, Or.inl ⟨by rfl, fun w' hS => by first | (go_simp; done) | (go_simp; with_reducible rfl)⟩, ?_⟩
  simp only [Act.put, List.setIfInBounds_toArray, List.set_cons_zero, List.set_cons_succ]
  refine ⟨_, Or.inl ⟨by rfl, fun w' hS => by first | (go_simp; done) | (go_simp; with_reducible rfl)⟩, ?_⟩
  simp only [Act.put, List.setIfInBounds_toArray, List.set_cons_zero, List.set_cons_succ]
  refine ⟨_, Or.inl ⟨by rfl, fun w' hS => by have hc1 := Upd.cell1 hS hc' (by simp); have hc2 := Upd.cell1 hS q0 (by simp); first | (go_simp; done) | (go_simp; with_reducible rfl)⟩, ?_⟩
  simp only [Act.put, List.setIfInBounds_toArray, List.set_cons_zero, List.set_cons_succ]
  refine ⟨_, Or.inl ⟨by rfl, fun w' hS => by first | (go_simp; done) | (go_simp; with_reducible rfl)⟩, ?_⟩
  simp only [Act.put, List.setIfInBounds_toArray, List.set_cons_zero, List.set_cons_succ]
  refine ⟨_, Or.inl ⟨by rfl, fun w' hS => by have hc1 := Upd.cell1 hS hc' (by simp); have hc2 := Upd.cell1 hS q0 (by simp); first | (go_simp; done) | (go_simp; with_reducible rfl)⟩, ?_⟩
  simp only [Act.put, List.setIfInBounds_toArray, List.set_cons_zero, List.set_cons_succ]
  simp only [readsThen, preThen]
  change wpList _ _ _ [_, _, _, _] _ _
  have hd := (Upd.refl [] W).drew
  have hh' := hh.kept hd (by simp) (by simp)
  have hcv' := hcv.upd hd (by simp)
  have hsrc : Src Tryz.prog 1 29 (.slice ac n cc) n xs W.drew := by
    by_cases h0 : n = 0
    · subst h0
      have hx0 : xs = [] := List.eq_nil_of_length_eq_zero (by simpa using hc.len)
      subst hx0
      cases ac with
      | none => exact Src.ofNil _ Tryz.underlying29 _
      | some a => exact Src.ofSlice _ Tryz.underlying29 a 0 cc [] rfl (by simp) (by simp)
    · obtain ⟨b, o, rfl, hr, hb'⟩ := hcv'.at_ (by omega)
      exact Src.ofRange Tryz.underlying29 (by have := hc.len; omega) hr hx1
  go_wp2_with (at_builtin; refine wpList_app _ rfl (.tmp 8) (.tmp 10) 29 29 rfl 5 (.int .u8 0) 1 1 Tryz.underlying29 Tryz.info5 rfl (by decide) hh'.own rfl hsrc rfl (by decide) (by omega) ?_; intro ao1 c1 w1 hown1 hupd1 hin1; have hc1 := hh'.cell1 hupd1; have hf1 := hh'.free1 hupd1)
  go_end0
  exact ⟨rfl, _, _, hh'.after hown1 hupd1 hin1, (u1.drew.mono (by simp)).trans (hh'.upd hupd1 _) (fun _ h => .inl h), hin1.le u1.drew.size⟩

/-! ### a text's add -/
/-- the column of texts over the variable p -/
def txt_8 (p : Nat) : Value := .agg #[.iface 234 (.pointer (some ⟨p, 0, none⟩)), .func (Fn.func 85) #[] #[], .func (Fn.func 86) #[] #[], .nilFunc]
theorem methT_8 (p : Nat) (w : World) : (method 706 234 (.pointer (some ⟨p, 0, none⟩)) "Append").run Tryz.prog w = .ok (372, .pointer (some ⟨p, 0, none⟩)) w := by kernel_rfl
set_option maxRecDepth 100000 in
set_option maxHeartbeats 400000 in
theorem addT_8 (p : Nat) (ax : Option Addr) (cx : Nat) (x : List Value) (ao : Option Addr) (m cp : Nat) (xs : List Value) (w : World) (hx : View w 1 ax 8 x) (hx1 : ∀ u ∈ x, u.oneCell' = true) (hc : Hold w p 236 237 8 ao m cp xs) (hm : m ≤ 100000) :
    Calls Tryz.prog 381 #[txt_8 p, .slice ax 8 cx] w fun e w' => e = .returned (.tuple #[]) ∧ Grew w w' p 236 237 8 ao (m + 1) (xs ++ x) := by
  have hl : x.length = 8 := by have := hx.len; omega
  go_enter Tryz.func381, Tryz.ntmps381
  simp only [txt_8]
  go_wp2
  obtain ⟨k1, u1, s1⟩ := alloc_facts w (Obj.cells #[.iface 234 (.pointer (some ⟨p, 0, none⟩)), .func (Fn.func 85) #[] #[], .func (Fn.func 86) #[] #[], .nilFunc] 243)
  have hh := hc.kept u1 (by simp) (by simp)
  have hxv := hx.upd u1 (by simp)
  generalize w.alloc (Obj.cells #[.iface 234 (.pointer (some ⟨p, 0, none⟩)), .func (Fn.func 85) #[] #[], .func (Fn.func 86) #[] #[], .nilFunc] 243) = W at *
  have q0 : W.cell? ⟨w.heap.size, 0, none⟩ = some (.iface 234 (.pointer (some ⟨p, 0, none⟩))) := by simp [World.cell?, k1]
  have q1 : W.cell? ⟨w.heap.size, 1, none⟩ = some (.func (Fn.func 85) #[] #[]) := by simp [World.cell?, k1]
  have hmeth := methT_8 p
  refine wp_region_split (S := Upd [] W) [(true, 0), (true, 1), (true, 2), (true, 3), (true, 4), (true, 6), (true, 7)] [5] [8] (by kernel_rfl) (by kernel_rfl) (fun _ _ d _ _ h => by cases d <;> exact h) ((Upd.refl _ _).drew) ?_
  simp only [readsAt, opersAt, Option.map_some, List.filterMap_cons, List.filterMap_nil, List.getElem?_toArray, List.getElem?_cons_succ, List.getElem?_cons_zero]
  refine ⟨_, Or.inl ⟨by rfl, fun w' hS => by first | (go_simp; done) | (go_simp; with_reducible rfl)⟩, ?_⟩
  simp only [Act.put, List.setIfInBounds_toArray, List.set_cons_zero, List.set_cons_succ]
  refine ⟨_, Or.inl ⟨by rfl, fun w' hS => by have e0 := Upd.cell1 hS q0 (by simp); have e1 := Upd.cell1 hS q1 (by simp); first | (go_simp; done) | (go_simp; with_reducible rfl)⟩, ?_⟩
  simp only [Act.put, List.setIfInBounds_toArray, List.set_cons_zero, List.set_cons_succ]
  refine ⟨_, Or.inl ⟨by rfl, fun w' hS => by first | (go_simp; done) | (go_simp; with_reducible rfl)⟩, ?_⟩
  simp only [Act.put, List.setIfInBounds_toArray, List.set_cons_zero, List.set_cons_succ]
  refine ⟨_, Or.inl ⟨by rfl, fun w' hS => by have e0 := Upd.cell1 hS q0 (by simp); have e1 := Upd.cell1 hS q1 (by simp); first | (go_simp; done) | (go_simp; with_reducible rfl)⟩, ?_⟩
  simp only [Act.put, List.setIfInBounds_toArray, List.set_cons_zero, List.set_cons_succ]
  refine ⟨_, Or.inl ⟨by rfl, fun w' hS => by first | (go_simp; done) | (go_simp; with_reducible rfl)⟩, ?_⟩
  simp only [Act.put, List.setIfInBounds_toArray, List.set_cons_zero, List.set_cons_succ]
  refine ⟨_, Or.inl ⟨by rfl, fun w' hS => by first | (go_simp; done) | (go_simp; with_reducible rfl)⟩, ?_⟩
  simp only [Act.put, List.setIfInBounds_toArray, List.set_cons_zero, List.set_cons_succ]
  refine ⟨_, Or.inl ⟨by rfl, fun w' hS => by first | (go_simp; done) | (go_simp; with_reducible rfl)⟩, ?_⟩
  simp only [Act.put, List.setIfInBounds_toArray, List.set_cons_zero, List.set_cons_succ]
  intro L0 hL0
  rw [if_pos (by rfl)]
  go_simp; refine (in_arr8 _ _ x _ (hxv.upd ((Upd.refl [] W).drew) (by simp)) hx1).mono ?_; rintro e w1 ⟨rfl, hu1⟩
  refine hL0 _ _ ⟨hu1.ofDrew, ?_⟩
  clear hL0 L0
  try simp only [preThen]
  change wpList _ _ _ [_] _ _
  have hH1 := hh.kept hu1.ofDrew (by simp) (by simp)
  go_wp2_with (go_at_call 372; (with_reducible refine (ColFixedStr8_Append p _ _ _ _ _ _ hH1 (by omega) hl hx1).mono ?_); rintro e w2 ⟨rfl, ao2, c2, hH2, hU2, hI2⟩)
  go_end0
  exact ⟨rfl, ao2, c2, hH2, ((u1.trans hu1.ofDrew (fun _ h => .inl h)).mono (by simp)).trans hU2 (fun _ h => .inl h), hI2.le (u1.trans hu1.ofDrew (fun _ h => .inl h)).size⟩
/-- the column of texts over the variable p -/
def txt_16 (p : Nat) : Value := .agg #[.iface 244 (.pointer (some ⟨p, 0, none⟩)), .func (Fn.func 87) #[] #[], .func (Fn.func 88) #[] #[], .nilFunc]
theorem methT_16 (p : Nat) (w : World) : (method 706 244 (.pointer (some ⟨p, 0, none⟩)) "Append").run Tryz.prog w = .ok (385, .pointer (some ⟨p, 0, none⟩)) w := by kernel_rfl
set_option maxRecDepth 100000 in
set_option maxHeartbeats 400000 in
theorem addT_16 (p : Nat) (ax : Option Addr) (cx : Nat) (x : List Value) (ao : Option Addr) (m cp : Nat) (xs : List Value) (w : World) (hx : View w 1 ax 16 x) (hx1 : ∀ u ∈ x, u.oneCell' = true) (hc : Hold w p 246 247 16 ao m cp xs) (hm : m ≤ 100000) :
    Calls Tryz.prog 394 #[txt_16 p, .slice ax 16 cx] w fun e w' => e = .returned (.tuple #[]) ∧ Grew w w' p 246 247 16 ao (m + 1) (xs ++ x) := by
  have hl : x.length = 16 := by have := hx.len; omega
  go_enter Tryz.func394, Tryz.ntmps394
  simp only [txt_16]
  go_wp2
  obtain ⟨k1, u1, s1⟩ := alloc_facts w (Obj.cells #[.iface 244 (.pointer (some ⟨p, 0, none⟩)), .func (Fn.func 87) #[] #[], .func (Fn.func 88) #[] #[], .nilFunc] 253)
  have hh := hc.kept u1 (by simp) (by simp)
  have hxv := hx.upd u1 (by simp)
  generalize w.alloc (Obj.cells #[.iface 244 (.pointer (some ⟨p, 0, none⟩)), .func (Fn.func 87) #[] #[], .func (Fn.func 88) #[] #[], .nilFunc] 253) = W at *
  have q0 : W.cell? ⟨w.heap.size, 0, none⟩ = some (.iface 244 (.pointer (some ⟨p, 0, none⟩))) := by simp [World.cell?, k1]
  have q1 : W.cell? ⟨w.heap.size, 1, none⟩ = some (.func (Fn.func 87) #[] #[]) := by simp [World.cell?, k1]
  have hmeth := methT_16 p
  refine wp_region_split (S := Upd [] W) [(true, 0), (true, 1), (true, 2), (true, 3), (true, 4), (true, 6), (true, 7)] [5] [8] (by kernel_rfl) (by kernel_rfl) (fun _ _ d _ _ h => by cases d <;> exact h) ((Upd.refl _ _).drew) ?_
  simp only [readsAt, opersAt, Option.map_some, List.filterMap_cons, List.filterMap_nil, List.getElem?_toArray, List.getElem?_cons_succ, List.getElem?_cons_zero]
  refine ⟨_, Or.inl ⟨by rfl, fun w' hS => by first | (go_simp; done) | (go_simp; with_reducible rfl)⟩, ?_⟩
  simp only [Act.put, List.setIfInBounds_toArray, List.set_cons_zero, List.set_cons_succ]
  refine ⟨_, Or.inl ⟨by rfl, fun w' hS => by have e0 := Upd.cell1 hS q0 (by simp); have e1 := Upd.cell1 hS q1 (by simp); first | (go_simp; done) | (go_simp; with_reducible rfl)⟩, ?_⟩
  simp only [Act.put, List.setIfInBounds_toArray, List.set_cons_zero, List.set_cons_succ]
  refine ⟨_, Or.inl ⟨by rfl, fun w' hS => by first | (go_simp; done) | (go_simp; with_reducible rfl)⟩, ?_⟩
  simp only [Act.put, List.setIfInBounds_toArray, List.set_cons_zero, List.set_cons_succ]
  refine ⟨_, Or.inl ⟨by rfl, fun w' hS => by have e0 := Upd.cell1 hS q0 (by simp); have e1 := Upd.cell1 hS q1 (by simp); first | (go_simp; done) | (go_simp; with_reducible rfl)⟩, ?_⟩
  simp only [Act.put, List.setIfInBounds_toArray, List.set_cons_zero, List.set_cons_succ]
  refine ⟨_, Or.inl ⟨by rfl, fun w' hS => by first | (go_simp; done) | (go_simp; with_reducible rfl)⟩, ?_⟩
  simp only [Act.put, List.setIfInBounds_toArray, List.set_cons_zero, List.set_cons_succ]
  refine ⟨_, Or.inl ⟨by rfl, fun w' hS => by first | (go_simp; done) | (go_simp; with_reducible rfl)⟩, ?_⟩
  simp only [Act.put, List.setIfInBounds_toArray, List.set_cons_zero, List.set_cons_succ]
  refine ⟨_, Or.inl ⟨by rfl, fun w' hS => by first | (go_simp; done) | (go_simp; with_reducible rfl)⟩, ?_⟩
  simp only [Act.put, List.setIfInBounds_toArray, List.set_cons_zero, List.set_cons_succ]
  intro L0 hL0
  rw [if_pos (by rfl)]
  go_simp; refine (in_arr16 _ _ x _ (hxv.upd ((Upd.refl [] W).drew) (by simp)) hx1).mono ?_; rintro e w1 ⟨rfl, hu1⟩
  refine hL0 _ _ ⟨hu1.ofDrew, ?_⟩
  clear hL0 L0
  try simp only [preThen]
  change wpList _ _ _ [_] _ _
  have hH1 := hh.kept hu1.ofDrew (by simp) (by simp)
  go_wp2_with (go_at_call 385; (with_reducible refine (ColFixedStr16_Append p _ _ _ _ _ _ hH1 (by omega) hl hx1).mono ?_); rintro e w2 ⟨rfl, ao2, c2, hH2, hU2, hI2⟩)
  go_end0
  exact ⟨rfl, ao2, c2, hH2, ((u1.trans hu1.ofDrew (fun _ h => .inl h)).mono (by simp)).trans hU2 (fun _ h => .inl h), hI2.le (u1.trans hu1.ofDrew (fun _ h => .inl h)).size⟩

def txt_F (p : Nat) : Value := .agg #[.iface 231 (.pointer (some ⟨p, 0, none⟩)), .func (Fn.func 83) #[] #[], .func (Fn.func 83) #[] #[], .nilFunc]
theorem methT_F (p : Nat) (w : World) : (method 706 231 (.pointer (some ⟨p, 0, none⟩)) "Append").run Tryz.prog w = .ok (363, .pointer (some ⟨p, 0, none⟩)) w := by kernel_rfl
set_option maxRecDepth 100000 in
set_option maxHeartbeats 400000 in
theorem addT_F (p S : Nat) (ax : Option Addr) (cx : Nat) (x : List Value) (ao : Option Addr) (m cp : Nat) (xs : List Value) (w : World) (hx : View w 1 ax S x) (hx1 : ∀ u ∈ x, u.oneCell' = true) (hc : HoldT w p 233 5 [.int .i64 S] 1 ao m cp xs)
    (hS : 0 < S ∧ S ≤ 1000) (hm : m ≤ 100000) :
    Calls Tryz.prog 345 #[txt_F p, .slice ax S cx] w fun e w' => e = .returned (.tuple #[]) ∧ GrewT w w' p 233 5 [.int .i64 S] 1 ao (m + S) (xs ++ x) := by
  go_enter Tryz.func345, Tryz.ntmps345
  simp only [txt_F]
  go_wp2
  obtain ⟨k1, u1, s1⟩ := alloc_facts w (Obj.cells #[.iface 231 (.pointer (some ⟨p, 0, none⟩)), .func (Fn.func 83) #[] #[], .func (Fn.func 83) #[] #[], .nilFunc] 224)
  have hh := hc.kept u1 (by simp) (by simp)
  have hxv := hx.upd u1 (by simp)
  generalize w.alloc (Obj.cells #[.iface 231 (.pointer (some ⟨p, 0, none⟩)), .func (Fn.func 83) #[] #[], .func (Fn.func 83) #[] #[], .nilFunc] 224) = W at *
  have q0 : W.cell? ⟨w.heap.size, 0, none⟩ = some (.iface 231 (.pointer (some ⟨p, 0, none⟩))) := by simp [World.cell?, k1]
  have q1 : W.cell? ⟨w.heap.size, 1, none⟩ = some (.func (Fn.func 83) #[] #[]) := by simp [World.cell?, k1]
  have hmeth := methT_F p
  refine wp_region_split (S := Upd [] W) [(true, 0), (true, 1), (true, 2), (true, 3), (true, 4), (true, 6), (true, 7)] [5] [8] (by kernel_rfl) (by kernel_rfl) (fun _ _ d _ _ h => by cases d <;> exact h) ((Upd.refl _ _).drew) ?_
  simp only [readsAt, opersAt, Option.map_some, List.filterMap_cons, List.filterMap_nil, List.getElem?_toArray, List.getElem?_cons_succ, List.getElem?_cons_zero]
  refine ⟨_, Or.inl ⟨by rfl, fun w' hS => by first | (go_simp; done) | (go_simp; with_reducible rfl)⟩, ?_⟩
  simp only [Act.put, List.setIfInBounds_toArray, List.set_cons_zero, List.set_cons_succ]
  refine ⟨_, Or.inl ⟨by rfl, fun w' hS => by have e0 := Upd.cell1 hS q0 (by simp); have e1 := Upd.cell1 hS q1 (by simp); first | (go_simp; done) | (go_simp; with_reducible rfl)⟩, ?_⟩
  simp only [Act.put, List.setIfInBounds_toArray, List.set_cons_zero, List.set_cons_succ]
  refine ⟨_, Or.inl ⟨by rfl, fun w' hS => by first | (go_simp; done) | (go_simp; with_reducible rfl)⟩, ?_⟩
  simp only [Act.put, List.setIfInBounds_toArray, List.set_cons_zero, List.set_cons_succ]
  refine ⟨_, Or.inl ⟨by rfl, fun w' hS => by have e0 := Upd.cell1 hS q0 (by simp); have e1 := Upd.cell1 hS q1 (by simp); first | (go_simp; done) | (go_simp; with_reducible rfl)⟩, ?_⟩
  simp only [Act.put, List.setIfInBounds_toArray, List.set_cons_zero, List.set_cons_succ]
  refine ⟨_, Or.inl ⟨by rfl, fun w' hS => by first | (go_simp; done) | (go_simp; with_reducible rfl)⟩, ?_⟩
  simp only [Act.put, List.setIfInBounds_toArray, List.set_cons_zero, List.set_cons_succ]
  refine ⟨_, Or.inl ⟨by rfl, fun w' hS => by first | (go_simp; done) | (go_simp; with_reducible rfl)⟩, ?_⟩
  simp only [Act.put, List.setIfInBounds_toArray, List.set_cons_zero, List.set_cons_succ]
  refine ⟨_, Or.inl ⟨by rfl, fun w' hS => by first | (go_simp; done) | (go_simp; with_reducible rfl)⟩, ?_⟩
  simp only [Act.put, List.setIfInBounds_toArray, List.set_cons_zero, List.set_cons_succ]
  intro L0 hL0
  rw [if_pos (by rfl)]
  go_simp; refine (in_same _ _).mono ?_; rintro e w1 ⟨rfl, rfl⟩
  refine hL0 _ _ ⟨(Upd.refl [] W).drew, ?_⟩
  clear hL0 L0
  try simp only [preThen]
  change wpList _ _ _ [_] _ _
  have hd := (Upd.refl [] W).drew
  have hH1 := hh.kept hd (by simp) (by simp)
  go_wp2_with (go_at_call 363; (with_reducible refine (ColFixedStr_Append p S _ _ _ _ _ _ _ _ hH1 (hxv.upd hd (by simp)) hx1 hS (by omega)).mono ?_); rintro e w2 ⟨rfl, ao2, c2, hH2, hU2, hI2⟩)
  go_end0
  exact ⟨rfl, ao2, c2, hH2, ((u1.trans hd (fun _ h => .inl h)).mono (by simp)).trans hU2 (fun _ h => .inl h), hI2.le (u1.trans hd (fun _ h => .inl h)).size⟩
end Go.Proofs.YtpehfhdacgjmpaaGreat
