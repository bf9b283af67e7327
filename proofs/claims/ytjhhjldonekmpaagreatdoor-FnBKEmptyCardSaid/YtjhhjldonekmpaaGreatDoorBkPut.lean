/- A Buffer's words for a block's head: PutUVarInt under 128, PutUInt8, PutBool, PutInt32, PutInt. -/
import Derived.Test.YtjhhjldonekmpaaGreatDoorBkEq
namespace Go.Proofs.YtjhhjldonekmpaaGreatDoor
open Go Go.RowKit
theorem cellAt {w : World} {b : Nat} {cs : Array Value} {E : TypeId} {fr : Nat × Nat} (h : w.heap[b]? = some (.cells cs E fr)) (j : Nat) : w.cell? ⟨b, j, none⟩ = cs[j]? := by simp [World.cell?, h]
set_option maxRecDepth 100000 in
set_option maxHeartbeats 400000 in
theorem PutUvarint1 (g x : Nat) (cur : Array Value) (w : World) (h : w.heap[g]? = some (.cells cur 348 (0, 0))) (hc : cur.size = 10) (hx : x < 128) :
    Calls Tryz.prog 108 #[.slice (some ⟨g, 0, none⟩) 10 10, .int .u64 x] w fun e w' => e = .returned (.int .i64 1) ∧ w'.heap[g]? = some (.cells (cur.setIfInBounds 0 (.int .u8 x)) 348 (0, 0)) ∧ Upd [g] w w' := by
  obtain ⟨v, hv⟩ : ∃ v, cur[0]? = some v := ⟨cur[0]'(by omega), by simp⟩
  have c0 : w.cell? ⟨g, 0, none⟩ = some v := by simp [World.cell?, h, hv]
  have f0 : w.frozen? ⟨g, 0, none⟩ = false := by simp [World.frozen?, h]
  have hx' : ¬ ((128 : Int) ≤ x) := by omega
  go_enter Tryz.func108, Tryz.ntmps108
  go_wp2
  go_loopw [1, 5] (fun a i wr => a = .int .u64 x ∧ i = .int .i64 0 ∧ wr = w) (fun _ _ _ => 0)
  case atStart => exact ⟨rfl, rfl, rfl⟩
  case round =>
    obtain ⟨rfl, rfl, hw⟩ := hrel
    go_wp2
    go_ret
    exact ⟨rfl, heap_setCell_same _ _ _ _ _ _ h, (Upd.refl _ _).setCell _ (by simp)⟩

set_option maxRecDepth 100000 in
set_option maxHeartbeats 1000000 in
theorem PutUVarIntN (bp : Nat) (ao : Option Addr) (m cp : Nat) (bs : List Value) (x : Nat) (w : World) (h : Hold w bp 46 5 1 ao m cp bs) (hx : x < 128) (hm : m ≤ 1000000) :
    Calls Tryz.prog 66 #[.pointer (some ⟨bp, 0, none⟩), .int .u64 x] w fun e w' => e = .returned (.tuple #[]) ∧ Grew w w' bp 46 5 1 ao (m + 1) (bs ++ [.int .u8 x]) := by
  obtain ⟨k1, u1, s1⟩ := alloc_facts w (Obj.cells #[.int .u8 0, .int .u8 0, .int .u8 0, .int .u8 0, .int .u8 0, .int .u8 0, .int .u8 0, .int .u8 0, .int .u8 0, .int .u8 0] 348)
  have hH1 := h.kept u1 (by simp) (by simp)
  have hlt := h.lt
  have hbl := h.own.lt
  go_enter Tryz.func66, Tryz.ntmps66
  go_wp2_with (go_at_call 108; (with_reducible refine (PutUvarint1 w.heap.size x _ _ k1 rfl hx).mono ?_); rintro e w5 ⟨rfl, hA5, hv5⟩)
  have hne : ∀ y, y ∈ bk ao → y ∉ [w.heap.size] := fun y hy hy' => by
    simp at hy'; have := hbl y hy; omega
  have hH5 := hH1.kept hv5 (by simp; omega) hne
  have hU5 : Upd [] w w5 := u1.trans hv5 (fun y hy => by simp at hy; exact .inr (by omega))
  have hl5 := lt_of_block hA5
  have hr5 : w5.rangeAt w.heap.size 0 [.int .u8 (x : Nat)] := fun j v hj => by
    cases j with
    | zero => simp at hj; subst hj; simp only [World.cell?, hA5]; simp
    | succ j => simp at hj
  have hc5 := hH5.cell
  have hd5 := (Upd.refl [] w5).drew
  clear k1 u1 s1 hv5 hA5
  refine wp_region_split (S := Upd [] w5) [(false, 0), (true, 1), (true, 2), (true, 3), (true, 4), (true, 5), (true, 6)] [] [7, 8, 9, 10] (by kernel_rfl) (by kernel_rfl) (fun _ _ d _ _ h => by cases d <;> exact h) ((Upd.refl _ _).drew) ?_
  simp only [readsAt, opersAt, Option.map_some, List.filterMap_cons, List.filterMap_nil, List.getElem?_toArray, List.getElem?_cons_succ, List.getElem?_cons_zero]
  refine ⟨_, Or.inl ⟨by rfl, fun w' hS => by first | (go_simp; done) | (go_simp; with_reducible rfl)⟩, ?_⟩
  simp only [Act.put, List.setIfInBounds_toArray, List.set_cons_zero, List.set_cons_succ]
  refine ⟨_, Or.inl ⟨by rfl, fun w' hS => by first | (go_simp; done) | (go_simp; with_reducible rfl)⟩, ?_⟩
  simp only [Act.put, List.setIfInBounds_toArray, List.set_cons_zero, List.set_cons_succ]
  refine ⟨_, Or.inl ⟨by rfl, fun w' hS => by first | (go_simp; done) | (go_simp; with_reducible rfl)⟩, ?_⟩
  simp only [Act.put, List.setIfInBounds_toArray, List.set_cons_zero, List.set_cons_succ]
  refine ⟨_, Or.inl ⟨by rfl, fun w' hS => by first | (go_simp; done) | (go_simp; with_reducible rfl)⟩, ?_⟩
  simp only [Act.put, List.setIfInBounds_toArray, List.set_cons_zero, List.set_cons_succ]
  refine ⟨_, Or.inl ⟨by rfl, fun w' hS => by have e0 := Upd.cell1 hS hc5 (by simp); first | (go_simp; done) | (go_simp; with_reducible rfl)⟩, ?_⟩
  simp only [Act.put, List.setIfInBounds_toArray, List.set_cons_zero, List.set_cons_succ]
  refine ⟨_, Or.inl ⟨by rfl, fun w' hS => by first | (go_simp; done) | (go_simp; with_reducible rfl)⟩, ?_⟩
  simp only [Act.put, List.setIfInBounds_toArray, List.set_cons_zero, List.set_cons_succ]
  refine ⟨_, Or.inl ⟨by rfl, fun w' hS => by first | (go_simp; done) | (go_simp; with_reducible rfl)⟩, ?_⟩
  simp only [Act.put, List.setIfInBounds_toArray, List.set_cons_zero, List.set_cons_succ]
  simp only [readsThen, preThen]
  change wpList _ _ _ [_, _, _, _] _ _
  have hH5' := hH5.kept hd5 (by simp) (by simp)
  go_wp2_with (at_builtin; refine wpList_app _ rfl (.tmp 14) (.tmp 16) 27 27 rfl 5 (.int .u8 0) 1 1 Tryz.underlying27 Tryz.info5 rfl (by decide) hH5'.own rfl (Src.ofRange Tryz.underlying27 (n := 1) rfl (hd5.range hr5 hl5 (by simp)) (by simp [Value.oneCell'])) rfl (by decide) (by omega) ?_; intro ao1 c1 w6 hown1 hupd1 hin1; have hc1 := hH5'.cell1 hupd1; have hf1 := hH5'.free1 hupd1)
  go_end0
  exact ⟨rfl, ao1, c1, hH5'.after hown1 hupd1 hin1, ((hU5.drew).mono (by simp)).trans (hH5'.upd hupd1 _) (fun _ h => .inl h), hin1.le (hU5.drew).size⟩
theorem PutUVarInt1 (bp : Nat) (ao : Option Addr) (m cp : Nat) (bs : List Value) (x : Int) (w : World) (h : Hold w bp 46 5 1 ao m cp bs) (h0 : 0 ≤ x) (hx : x < 128) (hm : m ≤ 1000000) :
    Calls Tryz.prog 66 #[.pointer (some ⟨bp, 0, none⟩), .int .u64 x] w fun e w' => e = .returned (.tuple #[]) ∧ Grew w w' bp 46 5 1 ao (m + 1) (bs ++ [.int .u8 x]) := by
  obtain ⟨n, rfl⟩ := Int.eq_ofNat_of_zero_le h0
  exact PutUVarIntN bp ao m cp bs n w h (by omega) hm
set_option maxRecDepth 100000 in
set_option maxHeartbeats 400000 in
theorem PutInt1 (bp : Nat) (ao : Option Addr) (m cp : Nat) (bs : List Value) (x : Int) (w : World) (h : Hold w bp 46 5 1 ao m cp bs) (h0 : 0 ≤ x) (hx : x < 128) (hm : m ≤ 1000000) :
    Calls Tryz.prog 69 #[.pointer (some ⟨bp, 0, none⟩), .int .i64 x] w fun e w' => e = .returned (.tuple #[]) ∧ Grew w w' bp 46 5 1 ao (m + 1) (bs ++ [.int .u8 x]) := by
  have hw : x % 18446744073709551616 = x := by omega
  go_enter Tryz.func69, Tryz.ntmps69
  go_wp2_with (go_at_call 66; apply stopHere)
  show Calls _ _ _ _ _
  try rw [hw]
  refine (PutUVarInt1 bp ao m cp bs x _ h h0 hx hm).mono ?_
  rintro e w1 ⟨rfl, hG⟩
  dsimp only
  go_wp2
  go_end0
  exact ⟨rfl, hG⟩
set_option maxRecDepth 100000 in
set_option maxHeartbeats 400000 in
theorem PutUInt8 (bp : Nat) (ao : Option Addr) (m cp : Nat) (bs : List Value) (x : Int) (w : World) (h : Hold w bp 46 5 1 ao m cp bs) (hm : m ≤ 1000000) :
    Calls Tryz.prog 109 #[.pointer (some ⟨bp, 0, none⟩), .int .u8 x] w fun e w' => e = .returned (.tuple #[]) ∧ Grew w w' bp 46 5 1 ao (m + 1) (bs ++ [.int .u8 x]) := by
  have hc := h.cell
  go_enter Tryz.func109, Tryz.ntmps109
  go_wp2_with (at_builtin; refine wpList_app1 _ rfl _ _ 27 rfl 5 (.int .u8 0) 1 1 Tryz.underlying27 Tryz.info5 rfl (by decide) h.own rfl [.int .u8 x] rfl rfl rfl (by simp [Value.oneCell']) (by decide) (by omega) ?_; intro ao1 c1 w1 hown1 hupd1 hin1; have hc1 := h.cell1 hupd1; have hf1 := h.free1 hupd1)
  go_end0
  exact ⟨rfl, _, _, h.after hown1 hupd1 hin1, h.upd hupd1 _, hin1⟩
def bitV (b : Bool) : Value := .int .u8 (if b then 1 else 0)
set_option maxRecDepth 100000 in
set_option maxHeartbeats 400000 in
theorem PutBool (bp : Nat) (ao : Option Addr) (m cp : Nat) (bs : List Value) (b : Bool) (w : World) (h : Hold w bp 46 5 1 ao m cp bs) (hm : m ≤ 1000000) :
    Calls Tryz.prog 67 #[.pointer (some ⟨bp, 0, none⟩), .bool b] w fun e w' => e = .returned (.tuple #[]) ∧ Grew w w' bp 46 5 1 ao (m + 1) (bs ++ [bitV b]) := by
  cases b <;> (go_enter Tryz.func67, Tryz.ntmps67) <;>
    (go_wp2_with (go_at_call 109; (refine (PutUInt8 bp ao m cp bs _ _ h hm).mono ?_); rintro e w1 ⟨rfl, hG⟩)) <;>
    (go_end0; exact ⟨rfl, hG⟩)
theorem setN4 (w : World) (g : Nat) (T : TypeId) (a b c d : Value) (x0 x1 x2 x3 : Value) (h : w.heap[g]? = some (.cells #[a, b, c, d] T (0, 0))) :
    ((((w.setCell ⟨g, 0, none⟩ x0).setCell ⟨g, 1, none⟩ x1).setCell ⟨g, 2, none⟩ x2).setCell ⟨g, 3, none⟩ x3).heap[g]? = some (.cells #[x0, x1, x2, x3] T (0, 0)) := by
  have h0 := heap_setCell_same w g 0 _ T x0 h
  have h1 := heap_setCell_same _ g 1 _ T x1 h0
  have h2 := heap_setCell_same _ g 2 _ T x2 h1
  have h3 := heap_setCell_same _ g 3 _ T x3 h2
  exact h3
set_option maxRecDepth 100000 in
set_option maxHeartbeats 1000000 in
theorem PutUint32A (g : Nat) (v : Int) (a b c d : Value) (w : World) (h : w.heap[g]? = some (.cells #[a, b, c, d] 366 (0, 0))) :
    Calls Tryz.prog 119 #[.agg #[], .slice (some ⟨g, 0, none⟩) 4 4, .int .u32 v] w fun e w' => e = .returned (.tuple #[]) ∧ w'.heap[g]? = some (.cells (leV 4 v).toArray 366 (0, 0)) ∧ Upd [g] w w' := by
  have k0 : w.cell? ⟨g, 0, none⟩ = some a := by simp [World.cell?, h]
  have k1 : w.cell? ⟨g, 1, none⟩ = some b := by simp [World.cell?, h]
  have k2 : w.cell? ⟨g, 2, none⟩ = some c := by simp [World.cell?, h]
  have k3 : w.cell? ⟨g, 3, none⟩ = some d := by simp [World.cell?, h]
  have f0 : w.frozen? ⟨g, 0, none⟩ = false := by simp [World.frozen?, h]
  have f1 : w.frozen? ⟨g, 1, none⟩ = false := by simp [World.frozen?, h]
  have f2 : w.frozen? ⟨g, 2, none⟩ = false := by simp [World.frozen?, h]
  have f3 : w.frozen? ⟨g, 3, none⟩ = false := by simp [World.frozen?, h]
  have hgs : g < w.heap.size := lt_of_block h
  go_enter Tryz.func119, Tryz.ntmps119
  go_wp2
  go_end0
  have hb : leV 4 v = [.int .u8 (v % 256), .int .u8 (v / 256 % 256), .int .u8 (v / 65536 % 256), .int .u8 (v / 16777216 % 256)] := by simp [leV, byteAt, List.range_succ]
  refine ⟨rfl, ?_, ?_⟩
  · rw [hb]
    exact ((Upd.refl [] _).alloc _).at (setN4 w g _ a b c d _ _ _ _ h) (by simp)
  · repeat (with_reducible first | exact Upd.refl _ _ | refine Upd.alloc ?_ _ | refine Upd.setCell ?_ _ (by simp) | refine Upd.drew ?_)
theorem byteAt_wrap (b : Int) (i : Nat) (hi : i < 4) : byteAt (b % 4294967296) i = byteAt b i := by
  unfold byteAt
  have : i = 0 ∨ i = 1 ∨ i = 2 ∨ i = 3 := by omega
  rcases this with rfl | rfl | rfl | rfl <;> simp <;> omega
theorem byteAt_wrap64 (b : Int) (i : Nat) (hi : i < 4) : byteAt (b % 18446744073709551616) i = byteAt b i := by
  unfold byteAt
  have : i = 0 ∨ i = 1 ∨ i = 2 ∨ i = 3 := by omega
  rcases this with rfl | rfl | rfl | rfl <;> simp <;> omega
theorem leV_wrap (b : Int) : leV 4 (b % 4294967296) = leV 4 b := by
  unfold leV
  apply List.map_congr_left
  intro i hi
  rw [byteAt_wrap b i (by simpa using hi)]
theorem leV_wrap64 (b : Int) : leV 4 (b % 18446744073709551616) = leV 4 b := by
  unfold leV
  apply List.map_congr_left
  intro i hi
  rw [byteAt_wrap64 b i (by simpa using hi)]
set_option maxRecDepth 100000 in
set_option maxHeartbeats 1000000 in
theorem PutUInt32 (bp : Nat) (ao : Option Addr) (m cp : Nat) (bs : List Value) (x : Int) (w : World) (h : Hold w bp 46 5 1 ao m cp bs) (hm : m ≤ 1000000) :
    Calls Tryz.prog 110 #[.pointer (some ⟨bp, 0, none⟩), .int .u32 x] w fun e w' => e = .returned (.tuple #[]) ∧ Grew w w' bp 46 5 1 ao (m + 4) (bs ++ leV 4 x) := by
  obtain ⟨k1, u1, s1⟩ := alloc_facts w (Obj.cells #[.int .u8 0, .int .u8 0, .int .u8 0, .int .u8 0] 366)
  have hH1 := h.kept u1 (by simp) (by simp)
  have hlt := h.lt
  have hbl := h.own.lt
  go_enter Tryz.func110, Tryz.ntmps110
  go_wp2
  generalize w.alloc (Obj.cells #[.int .u8 0, .int .u8 0, .int .u8 0, .int .u8 0] 366) = W at *
  have k1' : W.drew.heap[w.heap.size]? = some (.cells #[.int .u8 0, .int .u8 0, .int .u8 0, .int .u8 0] 366 (0, 0)) := k1
  refine wp_region_split (S := Upd [] W) [(true, 0), (true, 1), (true, 2)] [] [3] (by kernel_rfl) (by kernel_rfl) (fun _ _ d _ _ h => by cases d <;> exact h) ((Upd.refl _ _).drew) ?_
  simp only [readsAt, opersAt, Option.map_some, List.filterMap_cons, List.filterMap_nil, List.getElem?_toArray, List.getElem?_cons_succ, List.getElem?_cons_zero]
  refine ⟨_, Or.inl ⟨by rfl, fun w' hS => by skip; first | (go_simp; done) | (go_simp; with_reducible rfl)⟩, ?_⟩
  simp only [Act.put, List.setIfInBounds_toArray, List.set_cons_zero, List.set_cons_succ]
  refine ⟨_, Or.inl ⟨by rfl, fun w' hS => by first | (go_simp; done) | (go_simp; with_reducible rfl)⟩, ?_⟩
  simp only [Act.put, List.setIfInBounds_toArray, List.set_cons_zero, List.set_cons_succ]
  refine ⟨_, Or.inl ⟨by rfl, fun w' hS => by first | (go_simp; done) | (go_simp; with_reducible rfl)⟩, ?_⟩
  simp only [Act.put, List.setIfInBounds_toArray, List.set_cons_zero, List.set_cons_succ]
  simp only [readsThen, preThen]
  change wpList _ _ _ [_] _ _
  go_wp2_with (go_at_call 119; (with_reducible refine (PutUint32A w.heap.size x _ _ _ _ _ k1').mono ?_); rintro e w5 ⟨rfl, hA5, hv5⟩)
  have hne : ∀ y, y ∈ bk ao → y ∉ [w.heap.size] := fun y hy hy' => by
    simp at hy'; have := hbl y hy; omega
  have hH5 := hH1.kept hv5.ofDrew (by simp; omega) hne
  have hU5 : Upd [] w w5 := u1.trans hv5.ofDrew (fun y hy => by simp at hy; exact .inr (by omega))
  have hl5 := lt_of_block hA5
  have hr5 : w5.rangeAt w.heap.size 0 (leV 4 x) := rangeAt_blk hA5
  have hc5 := hH5.cell
  have hd5 := (Upd.refl [] w5).drew
  clear k1 k1' u1 s1 hv5 hA5
  refine wp_region_split (S := Upd [] w5) [(false, 0), (true, 1), (true, 2), (true, 3), (true, 4), (true, 5)] [] [6, 7, 8, 9] (by kernel_rfl) (by kernel_rfl) (fun _ _ d _ _ h => by cases d <;> exact h) ((Upd.refl _ _).drew) ?_
  simp only [readsAt, opersAt, Option.map_some, List.filterMap_cons, List.filterMap_nil, List.getElem?_toArray, List.getElem?_cons_succ, List.getElem?_cons_zero]
  refine ⟨_, Or.inl ⟨by rfl, fun w' hS => by first | (go_simp; done) | (go_simp; with_reducible rfl)⟩, ?_⟩
  simp only [Act.put, List.setIfInBounds_toArray, List.set_cons_zero, List.set_cons_succ]
  refine ⟨_, Or.inl ⟨by rfl, fun w' hS => by first | (go_simp; done) | (go_simp; with_reducible rfl)⟩, ?_⟩
  simp only [Act.put, List.setIfInBounds_toArray, List.set_cons_zero, List.set_cons_succ]
  refine ⟨_, Or.inl ⟨by rfl, fun w' hS => by first | (go_simp; done) | (go_simp; with_reducible rfl)⟩, ?_⟩
  simp only [Act.put, List.setIfInBounds_toArray, List.set_cons_zero, List.set_cons_succ]
  refine ⟨_, Or.inl ⟨by rfl, fun w' hS => by first | (go_simp; done) | (go_simp; with_reducible rfl)⟩, ?_⟩
  simp only [Act.put, List.setIfInBounds_toArray, List.set_cons_zero, List.set_cons_succ]
  refine ⟨_, Or.inl ⟨by rfl, fun w' hS => by have e0 := Upd.cell1 hS hc5 (by simp); first | (go_simp; done) | (go_simp; with_reducible rfl)⟩, ?_⟩
  simp only [Act.put, List.setIfInBounds_toArray, List.set_cons_zero, List.set_cons_succ]
  refine ⟨_, Or.inl ⟨by rfl, fun w' hS => by first | (go_simp; done) | (go_simp; with_reducible rfl)⟩, ?_⟩
  simp only [Act.put, List.setIfInBounds_toArray, List.set_cons_zero, List.set_cons_succ]
  simp only [readsThen, preThen]
  change wpList _ _ _ [_, _, _, _] _ _
  have hH5' := hH5.kept hd5 (by simp) (by simp)
  go_wp2_with (at_builtin; refine wpList_app _ rfl (.tmp 14) (.tmp 15) 27 27 rfl 5 (.int .u8 0) 1 1 Tryz.underlying27 Tryz.info5 rfl (by decide) hH5'.own rfl (Src.ofRange Tryz.underlying27 (n := 4) (leV_len 4 x) (hd5.range hr5 hl5 (by simp)) (leV_bytes 4 x).one) rfl (by decide) (by omega) ?_; intro ao1 c1 w6 hown1 hupd1 hin1; have hc1 := hH5'.cell1 hupd1; have hf1 := hH5'.free1 hupd1)
  go_end0
  exact ⟨rfl, ao1, c1, hH5'.after hown1 hupd1 hin1, ((hU5.drew).mono (by simp)).trans (hH5'.upd hupd1 _) (fun _ h => .inl h), hin1.le (hU5.drew).size⟩
set_option maxRecDepth 100000 in
set_option maxHeartbeats 400000 in
theorem PutInt32 (bp : Nat) (ao : Option Addr) (m cp : Nat) (bs : List Value) (x : Int) (w : World) (h : Hold w bp 46 5 1 ao m cp bs) (hm : m ≤ 1000000) :
    Calls Tryz.prog 68 #[.pointer (some ⟨bp, 0, none⟩), .int .i32 x] w fun e w' => e = .returned (.tuple #[]) ∧ Grew w w' bp 46 5 1 ao (m + 4) (bs ++ leV 4 x) := by
  have hw := leV_wrap x
  go_enter Tryz.func68, Tryz.ntmps68
  go_wp2_with (go_at_call 110; (refine (PutUInt32 bp ao m cp bs _ _ h hm).mono ?_); rintro e w1 ⟨rfl, hG⟩)
  go_end0
  rw [hw] at hG
  exact ⟨rfl, hG⟩
end Go.Proofs.YtjhhjldonekmpaaGreatDoor
