/- Columns of uint8 and uint32: NCEncode at the kinds 7 and 9. -/
import Derived.Test.YtpehfhdacgjmpaaGreatEncs
namespace Go.Proofs.YtpehfhdacgjmpaaGreat
open Go Go.RowKit
set_option maxRecDepth 100000 in
set_option maxHeartbeats 1000000 in
theorem PutUint32 (g off n cp N C : Nat) (xs : List Value) (v : Int) (w : World) (h : Row w 5 1 (some ⟨g, 0, none⟩) N C xs) (ho : off + 4 ≤ N) (hn : 4 ≤ n) :
    Calls Tryz.prog 207 #[.agg #[], .slice (some ⟨g, off, none⟩) n cp, .int .u32 v] w fun e w' => e = .returned (.tuple #[]) ∧ Row w' 5 1 (some ⟨g, 0, none⟩) N C (putAt xs off (leV 4 v)) ∧ Upd [g] w w' := by
  have hl := h.len
  have hnn : ((4 : Nat) : Int) ≤ n := by omega
  have c0 : ∀ j, j < 4 → ∃ u, w.cell? ⟨g, off + j, none⟩ = some u := fun j hj => by obtain ⟨u, _, hu⟩ := h.cell' (off + j) (by omega); exact ⟨u, hu⟩
  obtain ⟨u0, k0⟩ := c0 0 (by omega)
  rw [Nat.add_zero] at k0
  obtain ⟨u1, k1⟩ := c0 1 (by omega)
  have f1 := h.free (off + 1)
  obtain ⟨u2, k2⟩ := c0 2 (by omega)
  have f2 := h.free (off + 2)
  obtain ⟨u3, k3⟩ := c0 3 (by omega)
  have f3 := h.free (off + 3)
  have f0 := h.free off
  have hgs : g < w.heap.size := h.lt g (by simp)
  clear c0
  go_enter Tryz.func207, Tryz.ntmps207
  go_wp2
  go_end0
  have hs := sets_putAt [.int .u8 (v % 256), .int .u8 (v / 256 % 256), .int .u8 (v / 65536 % 256), .int .u8 (v / 16777216 % 256)] xs off 0 (by simp; omega)
  simp only [List.zipIdx_cons, List.zipIdx_nil, List.foldl_cons, List.foldl_nil, Nat.add_zero, Nat.zero_add, Nat.reduceAdd] at hs
  have hb : leV 4 v = [.int .u8 (v % 256), .int .u8 (v / 256 % 256), .int .u8 (v / 65536 % 256), .int .u8 (v / 16777216 % 256)] := by simp [leV, byteAt, List.range_succ]
  refine ⟨rfl, ?_, ?_⟩
  · rw [hb, ← hs]
    exact ((((h.stored1 off _).stored1 (off + 1) _).stored1 (off + 2) _).stored1 (off + 3) _).alloc _
  · repeat (with_reducible first | exact Upd.refl _ _ | refine Upd.alloc ?_ _ | refine Upd.setCell ?_ _ (by simp) | refine Upd.drew ?_)
theorem Tryz.info53 : (Tryz.prog.info? 53).map (fun i => (i.zero, i.size, i.bytes)) = some (some (.int .u32 0), 1, 4) := by kernel_rfl
set_option maxRecDepth 100000 in
set_option maxHeartbeats 400000 in
theorem ColUInt32_Append (p : Nat) (ao : Option Addr) (n c : Nat) (xs : List Value) (x : Int) (w : World) (h : Hold w p 96 53 1 ao n c xs) (hn : n ≤ 1000000) :
    Calls Tryz.prog 199 #[.pointer (some ⟨p, 0, none⟩), .int .u32 x] w fun e w' => e = .returned (.tuple #[]) ∧ Grew w w' p 96 53 1 ao (n + 1) (xs ++ [.int .u32 x]) := by
  have hc := h.cell
  go_enter Tryz.func199, Tryz.ntmps199
  go_wp2_with (at_builtin; refine wpList_app1 _ rfl _ _ 96 rfl 53 (.int .u32 0) 1 4 Tryz.underlying96 Tryz.info53 rfl (by decide) h.own rfl [.int .u32 x] rfl rfl rfl (by simp [Value.oneCell']) (by decide) (by omega) ?_; intro ao1 c1 w1 hown1 hupd1 hin1; have hc1 := h.cell1 hupd1; have hf1 := h.free1 hupd1)
  go_end0
  exact ⟨rfl, _, _, h.after hown1 hupd1 hin1, h.upd hupd1 _, hin1⟩

set_option maxRecDepth 100000 in
set_option maxHeartbeats 400000 in
theorem ColUInt8_Append (p : Nat) (ao : Option Addr) (n c : Nat) (xs : List Value) (x : Int) (w : World) (h : Hold w p 178 5 1 ao n c xs) (hn : n ≤ 1000000) :
    Calls Tryz.prog 181 #[.pointer (some ⟨p, 0, none⟩), .int .u8 x] w fun e w' => e = .returned (.tuple #[]) ∧ Grew w w' p 178 5 1 ao (n + 1) (xs ++ [.int .u8 x]) := by
  have hc := h.cell
  go_enter Tryz.func181, Tryz.ntmps181
  go_wp2_with (at_builtin; refine wpList_app1 _ rfl _ _ 178 rfl 5 (.int .u8 0) 1 1 Tryz.underlying178 Tryz.info5 rfl (by decide) h.own rfl [.int .u8 x] rfl rfl rfl (by simp [Value.oneCell']) (by decide) (by omega) ?_; intro ao1 c1 w1 hown1 hupd1 hin1; have hc1 := h.cell1 hupd1; have hf1 := h.free1 hupd1)
  go_end0
  exact ⟨rfl, _, _, h.after hown1 hupd1 hin1, h.upd hupd1 _, hin1⟩

set_option maxRecDepth 100000 in
set_option maxHeartbeats 1000000 in
theorem ColUInt32_EncodeColumn (ac : Option Addr) (n cc : Nat) (vs : List Int) (bp : Nat) (ao : Option Addr) (m cp : Nat) (bs : List Value) (w : World) (hc : View w 1 ac n (vs.map (Value.int .u32))) (hb : Hold w bp 210 5 1 ao m cp bs)
    (hap : Apart ac bp ao) (hac : ∀ x, x ∈ bk ac → x < w.heap.size) (hn : n ≤ 1000000) (hm : m ≤ 100000000) :
    Calls Tryz.prog 201 #[.slice ac n cc, .pointer (some ⟨bp, 0, none⟩)] w fun e w' => e = .returned (.tuple #[]) ∧ Grew w w' bp 210 5 1 ao (m + n * 4) (bs ++ vs.flatMap (leV 4)) := by
  have hvl : vs.length = n := by have := hc.len; simpa using this
  have hbl := hb.own.len
  by_cases h0 : n = 0
  · subst h0
    have hv0 : vs = [] := List.eq_nil_of_length_eq_zero hvl
    subst hv0
    go_enter Tryz.func201, Tryz.ntmps201
    go_wp2
    refine bodyPost_ret (results_none rfl _ _ _) rfl ?_
    exact ⟨rfl, ao, cp, by simpa using hb, Upd.refl _ _, In.self (fun _ h => h)⟩
  · have h1 : ((n : Int) == 0) = false := beq_eq_false_iff_ne.2 (by omega)
    have hc0 := hb.cell
    go_enter Tryz.func201, Tryz.ntmps201
    go_wp2_with (at_builtin; refine wpList_zeros _ rfl _ _ 29 3 rfl 5 (.int .u8 0) 1 1 .i64 Tryz.underlying29 Tryz.underlying3 Tryz.info5 rfl (by decide) (by simp [Value.cells, Value.oneCell']) hb.own rfl (4 * n) (by omega) rfl (by omega) (by decide) (by omega) ?_; intro ao1 c1 w1 hown1 hupd1 hin1; have hc1 := hb.cell1 hupd1; have hf1 := hb.free1 hupd1)
    have hH1 := hb.after hown1 hupd1 hin1
    have hU1 := hb.upd hupd1 (.slice ao1 (m + 4 * n) c1)
    clear hown1 hupd1 hc1 hf1
    generalize w1.setCell ⟨bp, 0, none⟩ (.slice ao1 (m + 4 * n) c1) = w2 at *
    obtain ⟨g, rfl⟩ := hH1.own.head (by omega)
    go_loopw [5, 30] (fun off i wr => ∃ k : Nat, k ≤ n ∧ i = .int .i64 k ∧ off = .int .i64 (m + 4 * k : Nat) ∧ Hold wr bp 210 5 1 (some ⟨g, 0, none⟩) (m + 4 * n) c1 (bs ++ (vs.take k).flatMap (leV 4) ++ List.replicate (4 * (n - k)) (.int .u8 0)) ∧ Upd (bp :: bk ao) w wr)
      (fun _ i _ => n - (intOf i).toNat)
    case atStart => exact ⟨0, Nat.zero_le _, rfl, rfl, by rw [show (Value.int .u8 0).cells = #[Value.int .u8 0] from rfl, zeroCells1] at hH1; simpa using hH1, hU1⟩
    case round =>
      obtain ⟨k, hk, rfl, rfl, hH, hU⟩ := hrel
      by_cases hlt : k < n
      · have hk0 : ((k : Int) < n) := by omega
        obtain ⟨b, o, rfl, hr, hbb⟩ := hc.at_ (by omega)
        have hbn : b ∉ bp :: bk ao := hap.not b (by simp)
        have hcell : wr.cell? ⟨b, o + k, none⟩ = some (.int .u32 (vs[k]'(by omega))) := (hU.cell hbb hbn).trans (hr k _ (by simp [hvl, hlt]))
        have hcb := hH.cell
        have hcap : m + 4 * k + 4 ≤ c1 := by have := hH.own.cap; omega
        obtain ⟨x, hx⟩ : ∃ x, x = vs[k]'(by omega) := ⟨_, rfl⟩
        rw [← hx] at hcell
        have HX := Lib.hid hx
        clear hx
        go_wp2
        have hwr : IntKind.i64.wrap ((m : Int) + 4 * k + 4) = m + 4 * k + 4 := IntWalk.i64_in _ (by omega)
        refine wp_region_split (S := Upd [] wr) [(true, 0), (true, 1), (true, 2), (true, 3), (true, 4), (true, 5), (true, 6), (true, 7), (true, 8), (true, 9)] [] [10] (by kernel_rfl) (by kernel_rfl) (fun _ _ d _ _ h => by cases d <;> exact h) ((Upd.refl _ _).drew) ?_
        simp only [readsAt, opersAt, Option.map_some, List.filterMap_cons, List.filterMap_nil, List.getElem?_toArray, List.getElem?_cons_succ, List.getElem?_cons_zero]
        refine ⟨_, Or.inl ⟨by rfl, fun w' hS => by have q1 := Upd.cell1 hS hcb (by simp); first | (go_simp; done) | (go_simp; with_reducible rfl)⟩, ?_⟩
        simp only [Act.put, List.setIfInBounds_toArray, List.set_cons_zero, List.set_cons_succ]
        refine ⟨_, Or.inl ⟨by rfl, fun w' hS => by first | (go_simp; done) | (go_simp; with_reducible rfl)⟩, ?_⟩
        simp only [Act.put, List.setIfInBounds_toArray, List.set_cons_zero, List.set_cons_succ]
        refine ⟨_, Or.inl ⟨by rfl, fun w' hS => by first | (go_simp; done) | (go_simp; with_reducible rfl)⟩, ?_⟩
        simp only [Act.put, List.setIfInBounds_toArray, List.set_cons_zero, List.set_cons_succ]
        refine ⟨_, Or.inl ⟨by rfl, fun w' hS => by first | (go_simp; done) | (go_simp; with_reducible rfl)⟩, ?_⟩
        simp only [Act.put, List.setIfInBounds_toArray, List.set_cons_zero, List.set_cons_succ]
        refine ⟨_, Or.inl ⟨by rfl, fun w' hS => by have q1 := Upd.cell1 hS hcb (by simp); first | (go_simp; done) | (go_simp; with_reducible rfl)⟩, ?_⟩
        simp only [Act.put, List.setIfInBounds_toArray, List.set_cons_zero, List.set_cons_succ]
        refine ⟨_, Or.inl ⟨by rfl, fun w' hS => by first | (go_simp; done) | (go_simp; with_reducible rfl)⟩, ?_⟩
        simp only [Act.put, List.setIfInBounds_toArray, List.set_cons_zero, List.set_cons_succ]
        refine ⟨_, Or.inl ⟨by rfl, fun w' hS => by first | (go_simp; done) | (go_simp; with_reducible rfl)⟩, ?_⟩
        simp only [Act.put, List.setIfInBounds_toArray, List.set_cons_zero, List.set_cons_succ]
        refine ⟨_, Or.inl ⟨by rfl, fun w' hS => by first | (go_simp; done) | (go_simp; with_reducible rfl)⟩, ?_⟩
        simp only [Act.put, List.setIfInBounds_toArray, List.set_cons_zero, List.set_cons_succ]
        refine ⟨_, yields_slice rfl 29 5 1 _ _ _ rfl Tryz.underlying29 (by kernel_rfl) g 0 _ _ rfl _ _ (m + 4 * k) (m + 4 * k + 4) rfl rfl (by omega) (by omega) (by omega) hcap (by omega) (m + 4 * k) 4 (c1 - (m + 4 * k)) (by omega) (by omega) rfl, ?_⟩
        simp only [Act.put, List.setIfInBounds_toArray, List.set_cons_zero, List.set_cons_succ]
        refine ⟨_, Or.inl ⟨by rfl, fun w' hS => by first | (go_simp; done) | (go_simp; with_reducible rfl)⟩, ?_⟩
        simp only [Act.put, List.setIfInBounds_toArray, List.set_cons_zero, List.set_cons_succ]
        simp only [readsThen, preThen]
        change wpList _ _ _ [_] _ _
        clear hwr
        go_wp2_with (go_at_call 207; (with_reducible refine (PutUint32 g (m + 4 * k) 4 _ (m + 4 * n) c1 _ x _ (World.ownsRow.drew hH.own) ?_ (by omega)).mono ?_); (· have := Nat.mul_le_mul_left 4 (show k + 1 ≤ n by omega); omega); rintro e wx ⟨rfl, hrow, hux⟩)
        have hstep : putAt (bs ++ (vs.take k).flatMap (leV 4) ++ List.replicate (4 * (n - k)) (.int .u8 0)) (m + 4 * k) (leV 4 x) = bs ++ (vs.take (k + 1)).flatMap (leV 4) ++ List.replicate (4 * (n - (k + 1))) (.int .u8 0) := by
          rw [flatMap_take_succ _ _ _ (by omega), ← HX.out]
          refine enc_step (r := 4 * (n - (k + 1))) (m := 4) ?_ (leV_len _ _) ?_
          · congr 1; have : n - k = (n - (k + 1)) + 1 := by omega
            rw [this]; omega
          · rw [List.length_append, flatMap_len _ 4 (leV_len 4), List.length_take]; omega
        rw [hstep] at hrow
        have hux' : Upd [g] wr wx := hux.ofDrew
        have hH' : Hold wx bp 210 5 1 (some ⟨g, 0, none⟩) (m + 4 * n) c1 (bs ++ (vs.take (k + 1)).flatMap (leV 4) ++ List.replicate (4 * (n - (k + 1))) (.int .u8 0)) := ⟨hux'.at hH.blk (fun h => hH.ne (by simpa using h)), hrow, hH.ne⟩
        have hU' : Upd (bp :: bk ao) w wx := hU.trans hux' (fun y hy => by
          simp at hy; subst hy
          rcases hin1 y (by simp) with h | h
          · exact .inl (List.mem_cons_of_mem _ h)
          · exact .inr h)
        clear hstep hrow hux hux' hH hU
        go_roundw
        case rel => exact ⟨k + 1, by omega, by go_num, by simp; omega, hH', hU'⟩
        case measure => simp [intOf]; omega
      · have hk0 : n ≤ k := by omega
        obtain rfl : k = n := by omega
        go_wp2
        go_end0
        refine ⟨rfl, some ⟨g, 0, none⟩, c1, ?_, hU, hin1⟩
        rw [List.take_of_length_le (by omega), Nat.sub_self, Nat.mul_zero, List.replicate_zero, List.append_nil] at hH
        rw [Nat.mul_comm k 4]
        exact hH
set_option maxRecDepth 100000 in
set_option maxHeartbeats 400000 in
theorem ColUInt8_EncodeColumn (ac : Option Addr) (n cc : Nat) (xs : List Value) (bp : Nat) (ao : Option Addr) (m cp : Nat) (bs : List Value) (w : World) (hc : View w 1 ac n xs) (hx1 : ∀ u ∈ xs, u.oneCell' = true) (hb : Hold w bp 210 5 1 ao m cp bs)
    (hac : ∀ x, x ∈ bk ac → x < w.heap.size) (hn : n ≤ 1000000) (hm : m ≤ 100000000) :
    Calls Tryz.prog 183 #[.slice ac n cc, .pointer (some ⟨bp, 0, none⟩)] w fun e w' => e = .returned (.tuple #[]) ∧ Grew w w' bp 210 5 1 ao (m + n) (bs ++ xs) := by
  by_cases h0 : n = 0
  · subst h0
    have hx0 : xs = [] := List.eq_nil_of_length_eq_zero (by simpa using hc.len)
    subst hx0
    go_enter Tryz.func183, Tryz.ntmps183
    go_wp2
    refine bodyPost_ret (results_none rfl _ _ _) rfl ?_
    exact ⟨rfl, ao, cp, by simpa using hb, Upd.refl _ _, In.self (fun _ h => h)⟩
  · have h1 : ((n : Int) == 0) = false := beq_eq_false_iff_ne.2 (by omega)
    have hc0 := hb.cell
    obtain ⟨b, o, rfl, hr, hb'⟩ := hc.at_ (by omega)
    have hsrc : Src Tryz.prog 1 178 (.slice (some ⟨b, o, none⟩) n cc) n xs w := Src.ofRange Tryz.underlying178 (by simpa using hc.len) hr hx1
    go_enter Tryz.func183, Tryz.ntmps183
    go_wp2_with (at_builtin; refine wpList_app _ rfl _ _ 29 178 rfl 5 (.int .u8 0) 1 1 Tryz.underlying29 Tryz.info5 rfl (by decide) hb.own rfl hsrc rfl (by decide) (by omega) ?_; intro ao1 c1 w1 hown1 hupd1 hin1; have hc1 := hb.cell1 hupd1; have hf1 := hb.free1 hupd1)
    go_end0
    exact ⟨rfl, _, _, hb.after hown1 hupd1 hin1, hb.upd hupd1 _, hin1⟩
set_option maxRecDepth 100000 in
set_option maxHeartbeats 400000 in
theorem in_u32 (r : R4) (w : World) : Calls Tryz.prog 75 #[r.agg] w fun e w' => e = .returned (.int .u32 (IntKind.u32.wrap r.a)) ∧ Upd [] w w' := by
  obtain ⟨a, b, c, d⟩ := r
  go_enter Tryz.func75, Tryz.ntmps75
  simp only [R4.agg]
  go_wp2
  go_ret
  exact ⟨rfl, (Upd.refl _ _).alloc _⟩

set_option maxRecDepth 100000 in
set_option maxHeartbeats 400000 in
theorem in_u8 (r : R4) (w : World) : Calls Tryz.prog 71 #[r.agg] w fun e w' => e = .returned (.int .u8 (IntKind.u8.wrap r.a)) ∧ Upd [] w w' := by
  obtain ⟨a, b, c, d⟩ := r
  go_enter Tryz.func71, Tryz.ntmps71
  simp only [R4.agg]
  go_wp2
  go_ret
  exact ⟨rfl, (Upd.refl _ _).alloc _⟩

def conv_u32 (r : R4) : Value := .int .u32 (IntKind.u32.wrap r.a)
/-- the column of numbers over the variable p -/
def num_u32 (p : Nat) : Value := .agg #[.iface 95 (.pointer (some ⟨p, 0, none⟩)), .func (Fn.func 75) #[] #[], .func (Fn.func 76) #[] #[]]
theorem meth_u32_Append (p : Nat) (w : World) : (method 706 95 (.pointer (some ⟨p, 0, none⟩)) "Append").run Tryz.prog w = .ok (199, .pointer (some ⟨p, 0, none⟩)) w := by kernel_rfl

set_option maxRecDepth 100000 in
set_option maxHeartbeats 1000000 in
theorem add_u32 (p : Nat) (ar : Option Addr) (n c : Nat) (rs : List R4) (ao : Option Addr) (m cp : Nat) (xs : List Value) (w : World) (hr : View w 4 ar n (rs.flatMap R4.cells)) (hc : Hold w p 96 53 1 ao m cp xs)
    (hap : 0 < n → Apart ar p ao) (hn : n ≤ 1000) (hm : m ≤ 100000) :
    Calls Tryz.prog 324 #[num_u32 p, .slice ar n c] w fun e w' => e = .returned (.tuple #[]) ∧ Grew w w' p 96 53 1 ao (m + n) (xs ++ rs.map conv_u32) := by
  have hrl : rs.length = n := by have := hr.len; rw [flatMap_len _ 4 R4.cells_len] at this; omega
  have hpw := hc.lt
  go_enter Tryz.func324, Tryz.ntmps324
  simp only [num_u32]
  go_wp2
  have hcB : (w.alloc (Obj.cells #[.iface 95 (.pointer (some ⟨p, 0, none⟩)), .func (Fn.func 75) #[] #[], .func (Fn.func 76) #[] #[]] 199)).heap[w.heap.size]? = some (Obj.cells #[.iface 95 (.pointer (some ⟨p, 0, none⟩)), .func (Fn.func 75) #[] #[], .func (Fn.func 76) #[] #[]] 199) := heap_alloc_new _ _
  have hU0 := (Upd.refl [] w).alloc (Obj.cells #[.iface 95 (.pointer (some ⟨p, 0, none⟩)), .func (Fn.func 75) #[] #[], .func (Fn.func 76) #[] #[]] 199)
  have hBn : w.heap.size ∉ p :: bk ao := fun h => by
    rcases List.mem_cons.1 h with h | h
    · omega
    · have := hc.bk_lt _ h; omega
  have hBl := lt_of_block hcB
  generalize w.alloc (Obj.cells #[.iface 95 (.pointer (some ⟨p, 0, none⟩)), .func (Fn.func 75) #[] #[], .func (Fn.func 76) #[] #[]] 199) = W0 at *
  have hc0 := hc.kept hU0 (by simp) (by simp)
  have hr0 := hr.upd hU0 (by simp)
  go_loopw [8] (fun i wr => ∃ (k : Nat) (ao' : Option Addr) (c' : Nat), k ≤ n ∧ i = .int .i64 k ∧ Hold wr p 96 53 1 ao' (m + k) c' (xs ++ (rs.take k).map conv_u32) ∧ Upd (p :: bk ao) W0 wr ∧ In (bk ao) W0.heap.size ao')
    (fun i _ => n - (intOf i).toNat)
  case atStart => exact ⟨0, ao, cp, Nat.zero_le _, rfl, by simpa using hc0, Upd.refl _ _, In.self (fun _ h => h)⟩
  case round =>
    obtain ⟨k, ao', c', hk, rfl, hH, hU, hI⟩ := hrel
    by_cases hlt : k < n
    · have hk0 : ((k : Int) < n) := by omega
      obtain ⟨b, o, rfl, hrr, hbb⟩ := hr0.at_ (by omega)
      have hbn : b ∉ p :: bk ao := (hap (by omega)).not b (by simp)
      obtain ⟨r, hx⟩ : ∃ r, r = rs[k]'(by omega) := ⟨_, rfl⟩
      have hcell : ∀ j, j < 4 → wr.cell? ⟨b, o + k * 4 + j, none⟩ = r.cells[j]? := fun j hj => by
        rw [hU.cell hbb hbn, Nat.add_assoc]
        have h1 := rows_get rs k (by omega) j hj
        rw [← hx] at h1
        obtain ⟨u, hu⟩ : ∃ u, r.cells[j]? = some u := ⟨r.cells[j]'(by rw [R4.cells_len]; omega), by simp⟩
        rw [hu]
        exact hrr (k * 4 + j) u (h1.trans hu)
      have d0 := hcell 0 (by omega)
      have d1 := hcell 1 (by omega)
      have d2 := hcell 2 (by omega)
      have d3 := hcell 3 (by omega)
      have HX := Lib.hid hx
      clear hx hcell
      obtain ⟨ra, rb, rc, rd⟩ := r
      simp only [R4.cells, Nat.add_zero, List.getElem?_cons_zero, List.getElem?_cons_succ] at d0 d1 d2 d3
      have hB := hU.at hcB hBn
      have e0 : wr.cell? ⟨w.heap.size, 0, none⟩ = some (.iface 95 (.pointer (some ⟨p, 0, none⟩))) := by simp [World.cell?, hB]
      have e1 : wr.cell? ⟨w.heap.size, 1, none⟩ = some (.func (Fn.func 75) #[] #[]) := by simp [World.cell?, hB]
      have hBw := lt_of_block hB
      go_wp2
      have n0 := World.cell?_alloc_at (w := wr) #[Value.int .u64 ra, .int .u64 rb, .int .u64 rc, .int .u64 rd] 28 wr.heap.size 0 rfl
      have n1 := World.cell?_alloc_at (w := wr) #[Value.int .u64 ra, .int .u64 rb, .int .u64 rc, .int .u64 rd] 28 wr.heap.size 1 rfl
      have n2 := World.cell?_alloc_at (w := wr) #[Value.int .u64 ra, .int .u64 rb, .int .u64 rc, .int .u64 rd] 28 wr.heap.size 2 rfl
      have n3 := World.cell?_alloc_at (w := wr) #[Value.int .u64 ra, .int .u64 rb, .int .u64 rc, .int .u64 rd] 28 wr.heap.size 3 rfl
      have hUn := (Upd.refl [] wr).alloc (Obj.cells #[Value.int .u64 ra, .int .u64 rb, .int .u64 rc, .int .u64 rd] 28)
      generalize wr.alloc (Obj.cells #[Value.int .u64 ra, .int .u64 rb, .int .u64 rc, .int .u64 rd] 28) = W at *
      have g0 := hUn.cell1 e0 (by simp)
      have g1 := hUn.cell1 e1 (by simp)
      simp only [List.getElem?_toArray, List.getElem?_cons_zero, List.getElem?_cons_succ] at n0 n1 n2 n3
      have hHW := hH.kept hUn (by simp) (by simp)
      have hmeth := meth_u32_Append p
      refine wp_region_split (S := Upd [] W) [(true, 0), (true, 1), (true, 2), (true, 3), (true, 4), (true, 6), (true, 7)] [5] [8] (by kernel_rfl) (by kernel_rfl) (fun _ _ d _ _ h => by cases d <;> exact h) ((Upd.refl _ _).drew) ?_
      simp only [readsAt, opersAt, Option.map_some, List.filterMap_cons, List.filterMap_nil, List.getElem?_toArray, List.getElem?_cons_succ, List.getElem?_cons_zero]
      refine ⟨_, Or.inl ⟨by rfl, fun w' hS => by first | (go_simp; done) | (go_simp; with_reducible rfl)⟩, ?_⟩
      simp only [Act.put, List.setIfInBounds_toArray, List.set_cons_zero, List.set_cons_succ]
      refine ⟨_, Or.inl ⟨by rfl, fun w' hS => by have q0 := Upd.cell1 hS g0 (by simp); have q1 := Upd.cell1 hS g1 (by simp); have q2 := Upd.cell1 hS n0 (by simp); have q3 := Upd.cell1 hS n1 (by simp); have q4 := Upd.cell1 hS n2 (by simp); have q5 := Upd.cell1 hS n3 (by simp); first | (go_simp; done) | (go_simp; with_reducible rfl)⟩, ?_⟩
      simp only [Act.put, List.setIfInBounds_toArray, List.set_cons_zero, List.set_cons_succ]
      refine ⟨_, Or.inl ⟨by rfl, fun w' hS => by first | (go_simp; done) | (go_simp; with_reducible rfl)⟩, ?_⟩
      simp only [Act.put, List.setIfInBounds_toArray, List.set_cons_zero, List.set_cons_succ]
      refine ⟨_, Or.inl ⟨by rfl, fun w' hS => by have q0 := Upd.cell1 hS g0 (by simp); have q1 := Upd.cell1 hS g1 (by simp); have q2 := Upd.cell1 hS n0 (by simp); have q3 := Upd.cell1 hS n1 (by simp); have q4 := Upd.cell1 hS n2 (by simp); have q5 := Upd.cell1 hS n3 (by simp); first | (go_simp; done) | (go_simp; with_reducible rfl)⟩, ?_⟩
      simp only [Act.put, List.setIfInBounds_toArray, List.set_cons_zero, List.set_cons_succ]
      refine ⟨_, Or.inl ⟨by rfl, fun w' hS => by have q0 := Upd.cell1 hS g0 (by simp); have q1 := Upd.cell1 hS g1 (by simp); have q2 := Upd.cell1 hS n0 (by simp); have q3 := Upd.cell1 hS n1 (by simp); have q4 := Upd.cell1 hS n2 (by simp); have q5 := Upd.cell1 hS n3 (by simp); first | (go_simp; done) | (go_simp; with_reducible rfl)⟩, ?_⟩
      simp only [Act.put, List.setIfInBounds_toArray, List.set_cons_zero, List.set_cons_succ]
      refine ⟨_, Or.inl ⟨by rfl, fun w' hS => by first | (go_simp; done) | (go_simp; with_reducible rfl)⟩, ?_⟩
      simp only [Act.put, List.setIfInBounds_toArray, List.set_cons_zero, List.set_cons_succ]
      refine ⟨_, Or.inl ⟨by rfl, fun w' hS => by first | (go_simp; done) | (go_simp; with_reducible rfl)⟩, ?_⟩
      simp only [Act.put, List.setIfInBounds_toArray, List.set_cons_zero, List.set_cons_succ]
      intro L0 hL0
      rw [if_pos (by rfl)]
      go_simp; refine (in_u32 ⟨ra, rb, rc, rd⟩ _).mono ?_; rintro e w1 ⟨rfl, hu1⟩
      refine hL0 _ _ ⟨hu1.ofDrew, ?_⟩
      clear hL0 L0
      try simp only [preThen]
      change wpList _ _ _ [_] _ _
      have hH1 := hHW.kept hu1.ofDrew (by simp) (by simp)
      have hUw := (hUn.trans hu1.ofDrew (fun _ h => .inl h))
      go_wp2_with (go_at_call 199; (with_reducible refine (ColUInt32_Append p _ _ _ _ _ _ hH1 (by omega)).mono ?_); rintro e w2 ⟨rfl, ao2, c2, hH2, hU2, hI2⟩)
      have hUx : Upd (p :: bk ao) W0 w2 := (hU.trans (hUw.mono (by simp) : Upd (p :: bk ao) wr w1) (fun _ h => .inl h)).trans hU2 (fun y hy => by
        rcases List.mem_cons.1 hy with h | h
        · exact .inl (by rw [h]; exact List.mem_cons_self)
        · rcases hI y h with h' | h'
          · exact .inl (List.mem_cons_of_mem _ h')
          · exact .inr h')
      have hIx : In (bk ao) W0.heap.size ao2 := hI.step hI2 (Nat.le_trans hU.size hUw.size)
      have hHx : Hold w2 p 96 53 1 ao2 (m + (k + 1)) c2 (xs ++ (rs.take (k + 1)).map conv_u32) := by
        rw [List.take_succ_eq_append_getElem (by omega), ← HX.out, List.map_append, ← List.append_assoc]
        exact hH2
      clear hH2 hU2 hI2 hH1 hHW
      go_roundw
      case rel => exact ⟨k + 1, ao2, c2, by omega, by go_num, hHx, hUx, hIx⟩
      case measure => simp [intOf]; omega
    · have hk0 : n ≤ k := by omega
      obtain rfl : k = n := by omega
      go_wp2
      go_end0
      refine ⟨rfl, ao', c', ?_, (hU0.mono (by simp)).trans hU (fun _ h => .inl h), hI.le hU0.size⟩
      rw [List.take_of_length_le (by omega)] at hH
      exact hH
def conv_u8 (r : R4) : Value := .int .u8 (IntKind.u8.wrap r.a)
/-- the column of numbers over the variable p -/
def num_u8 (p : Nat) : Value := .agg #[.iface 177 (.pointer (some ⟨p, 0, none⟩)), .func (Fn.func 71) #[] #[], .func (Fn.func 72) #[] #[]]
theorem meth_u8_Append (p : Nat) (w : World) : (method 706 177 (.pointer (some ⟨p, 0, none⟩)) "Append").run Tryz.prog w = .ok (181, .pointer (some ⟨p, 0, none⟩)) w := by kernel_rfl

set_option maxRecDepth 100000 in
set_option maxHeartbeats 1000000 in
theorem add_u8 (p : Nat) (ar : Option Addr) (n c : Nat) (rs : List R4) (ao : Option Addr) (m cp : Nat) (xs : List Value) (w : World) (hr : View w 4 ar n (rs.flatMap R4.cells)) (hc : Hold w p 178 5 1 ao m cp xs)
    (hap : 0 < n → Apart ar p ao) (hn : n ≤ 1000) (hm : m ≤ 100000) :
    Calls Tryz.prog 309 #[num_u8 p, .slice ar n c] w fun e w' => e = .returned (.tuple #[]) ∧ Grew w w' p 178 5 1 ao (m + n) (xs ++ rs.map conv_u8) := by
  have hrl : rs.length = n := by have := hr.len; rw [flatMap_len _ 4 R4.cells_len] at this; omega
  have hpw := hc.lt
  go_enter Tryz.func309, Tryz.ntmps309
  simp only [num_u8]
  go_wp2
  have hcB : (w.alloc (Obj.cells #[.iface 177 (.pointer (some ⟨p, 0, none⟩)), .func (Fn.func 71) #[] #[], .func (Fn.func 72) #[] #[]] 184)).heap[w.heap.size]? = some (Obj.cells #[.iface 177 (.pointer (some ⟨p, 0, none⟩)), .func (Fn.func 71) #[] #[], .func (Fn.func 72) #[] #[]] 184) := heap_alloc_new _ _
  have hU0 := (Upd.refl [] w).alloc (Obj.cells #[.iface 177 (.pointer (some ⟨p, 0, none⟩)), .func (Fn.func 71) #[] #[], .func (Fn.func 72) #[] #[]] 184)
  have hBn : w.heap.size ∉ p :: bk ao := fun h => by
    rcases List.mem_cons.1 h with h | h
    · omega
    · have := hc.bk_lt _ h; omega
  have hBl := lt_of_block hcB
  generalize w.alloc (Obj.cells #[.iface 177 (.pointer (some ⟨p, 0, none⟩)), .func (Fn.func 71) #[] #[], .func (Fn.func 72) #[] #[]] 184) = W0 at *
  have hc0 := hc.kept hU0 (by simp) (by simp)
  have hr0 := hr.upd hU0 (by simp)
  go_loopw [8] (fun i wr => ∃ (k : Nat) (ao' : Option Addr) (c' : Nat), k ≤ n ∧ i = .int .i64 k ∧ Hold wr p 178 5 1 ao' (m + k) c' (xs ++ (rs.take k).map conv_u8) ∧ Upd (p :: bk ao) W0 wr ∧ In (bk ao) W0.heap.size ao')
    (fun i _ => n - (intOf i).toNat)
  case atStart => exact ⟨0, ao, cp, Nat.zero_le _, rfl, by simpa using hc0, Upd.refl _ _, In.self (fun _ h => h)⟩
  case round =>
    obtain ⟨k, ao', c', hk, rfl, hH, hU, hI⟩ := hrel
    by_cases hlt : k < n
    · have hk0 : ((k : Int) < n) := by omega
      obtain ⟨b, o, rfl, hrr, hbb⟩ := hr0.at_ (by omega)
      have hbn : b ∉ p :: bk ao := (hap (by omega)).not b (by simp)
      obtain ⟨r, hx⟩ : ∃ r, r = rs[k]'(by omega) := ⟨_, rfl⟩
      have hcell : ∀ j, j < 4 → wr.cell? ⟨b, o + k * 4 + j, none⟩ = r.cells[j]? := fun j hj => by
        rw [hU.cell hbb hbn, Nat.add_assoc]
        have h1 := rows_get rs k (by omega) j hj
        rw [← hx] at h1
        obtain ⟨u, hu⟩ : ∃ u, r.cells[j]? = some u := ⟨r.cells[j]'(by rw [R4.cells_len]; omega), by simp⟩
        rw [hu]
        exact hrr (k * 4 + j) u (h1.trans hu)
      have d0 := hcell 0 (by omega)
      have d1 := hcell 1 (by omega)
      have d2 := hcell 2 (by omega)
      have d3 := hcell 3 (by omega)
      have HX := Lib.hid hx
      clear hx hcell
      obtain ⟨ra, rb, rc, rd⟩ := r
      simp only [R4.cells, Nat.add_zero, List.getElem?_cons_zero, List.getElem?_cons_succ] at d0 d1 d2 d3
      have hB := hU.at hcB hBn
      have e0 : wr.cell? ⟨w.heap.size, 0, none⟩ = some (.iface 177 (.pointer (some ⟨p, 0, none⟩))) := by simp [World.cell?, hB]
      have e1 : wr.cell? ⟨w.heap.size, 1, none⟩ = some (.func (Fn.func 71) #[] #[]) := by simp [World.cell?, hB]
      have hBw := lt_of_block hB
      go_wp2
      have n0 := World.cell?_alloc_at (w := wr) #[Value.int .u64 ra, .int .u64 rb, .int .u64 rc, .int .u64 rd] 28 wr.heap.size 0 rfl
      have n1 := World.cell?_alloc_at (w := wr) #[Value.int .u64 ra, .int .u64 rb, .int .u64 rc, .int .u64 rd] 28 wr.heap.size 1 rfl
      have n2 := World.cell?_alloc_at (w := wr) #[Value.int .u64 ra, .int .u64 rb, .int .u64 rc, .int .u64 rd] 28 wr.heap.size 2 rfl
      have n3 := World.cell?_alloc_at (w := wr) #[Value.int .u64 ra, .int .u64 rb, .int .u64 rc, .int .u64 rd] 28 wr.heap.size 3 rfl
      have hUn := (Upd.refl [] wr).alloc (Obj.cells #[Value.int .u64 ra, .int .u64 rb, .int .u64 rc, .int .u64 rd] 28)
      generalize wr.alloc (Obj.cells #[Value.int .u64 ra, .int .u64 rb, .int .u64 rc, .int .u64 rd] 28) = W at *
      have g0 := hUn.cell1 e0 (by simp)
      have g1 := hUn.cell1 e1 (by simp)
      simp only [List.getElem?_toArray, List.getElem?_cons_zero, List.getElem?_cons_succ] at n0 n1 n2 n3
      have hHW := hH.kept hUn (by simp) (by simp)
      have hmeth := meth_u8_Append p
      refine wp_region_split (S := Upd [] W) [(true, 0), (true, 1), (true, 2), (true, 3), (true, 4), (true, 6), (true, 7)] [5] [8] (by kernel_rfl) (by kernel_rfl) (fun _ _ d _ _ h => by cases d <;> exact h) ((Upd.refl _ _).drew) ?_
      simp only [readsAt, opersAt, Option.map_some, List.filterMap_cons, List.filterMap_nil, List.getElem?_toArray, List.getElem?_cons_succ, List.getElem?_cons_zero]
      refine ⟨_, Or.inl ⟨by rfl, fun w' hS => by first | (go_simp; done) | (go_simp; with_reducible rfl)⟩, ?_⟩
      simp only [Act.put, List.setIfInBounds_toArray, List.set_cons_zero, List.set_cons_succ]
      refine ⟨_, Or.inl ⟨by rfl, fun w' hS => by have q0 := Upd.cell1 hS g0 (by simp); have q1 := Upd.cell1 hS g1 (by simp); have q2 := Upd.cell1 hS n0 (by simp); have q3 := Upd.cell1 hS n1 (by simp); have q4 := Upd.cell1 hS n2 (by simp); have q5 := Upd.cell1 hS n3 (by simp); first | (go_simp; done) | (go_simp; with_reducible rfl)⟩, ?_⟩
      simp only [Act.put, List.setIfInBounds_toArray, List.set_cons_zero, List.set_cons_succ]
      refine ⟨_, Or.inl ⟨by rfl, fun w' hS => by first | (go_simp; done) | (go_simp; with_reducible rfl)⟩, ?_⟩
      simp only [Act.put, List.setIfInBounds_toArray, List.set_cons_zero, List.set_cons_succ]
      refine ⟨_, Or.inl ⟨by rfl, fun w' hS => by have q0 := Upd.cell1 hS g0 (by simp); have q1 := Upd.cell1 hS g1 (by simp); have q2 := Upd.cell1 hS n0 (by simp); have q3 := Upd.cell1 hS n1 (by simp); have q4 := Upd.cell1 hS n2 (by simp); have q5 := Upd.cell1 hS n3 (by simp); first | (go_simp; done) | (go_simp; with_reducible rfl)⟩, ?_⟩
      simp only [Act.put, List.setIfInBounds_toArray, List.set_cons_zero, List.set_cons_succ]
      refine ⟨_, Or.inl ⟨by rfl, fun w' hS => by have q0 := Upd.cell1 hS g0 (by simp); have q1 := Upd.cell1 hS g1 (by simp); have q2 := Upd.cell1 hS n0 (by simp); have q3 := Upd.cell1 hS n1 (by simp); have q4 := Upd.cell1 hS n2 (by simp); have q5 := Upd.cell1 hS n3 (by simp); first | (go_simp; done) | (go_simp; with_reducible rfl)⟩, ?_⟩
      simp only [Act.put, List.setIfInBounds_toArray, List.set_cons_zero, List.set_cons_succ]
      refine ⟨_, Or.inl ⟨by rfl, fun w' hS => by first | (go_simp; done) | (go_simp; with_reducible rfl)⟩, ?_⟩
      simp only [Act.put, List.setIfInBounds_toArray, List.set_cons_zero, List.set_cons_succ]
      refine ⟨_, Or.inl ⟨by rfl, fun w' hS => by first | (go_simp; done) | (go_simp; with_reducible rfl)⟩, ?_⟩
      simp only [Act.put, List.setIfInBounds_toArray, List.set_cons_zero, List.set_cons_succ]
      intro L0 hL0
      rw [if_pos (by rfl)]
      go_simp; refine (in_u8 ⟨ra, rb, rc, rd⟩ _).mono ?_; rintro e w1 ⟨rfl, hu1⟩
      refine hL0 _ _ ⟨hu1.ofDrew, ?_⟩
      clear hL0 L0
      try simp only [preThen]
      change wpList _ _ _ [_] _ _
      have hH1 := hHW.kept hu1.ofDrew (by simp) (by simp)
      have hUw := (hUn.trans hu1.ofDrew (fun _ h => .inl h))
      go_wp2_with (go_at_call 181; (with_reducible refine (ColUInt8_Append p _ _ _ _ _ _ hH1 (by omega)).mono ?_); rintro e w2 ⟨rfl, ao2, c2, hH2, hU2, hI2⟩)
      have hUx : Upd (p :: bk ao) W0 w2 := (hU.trans (hUw.mono (by simp) : Upd (p :: bk ao) wr w1) (fun _ h => .inl h)).trans hU2 (fun y hy => by
        rcases List.mem_cons.1 hy with h | h
        · exact .inl (by rw [h]; exact List.mem_cons_self)
        · rcases hI y h with h' | h'
          · exact .inl (List.mem_cons_of_mem _ h')
          · exact .inr h')
      have hIx : In (bk ao) W0.heap.size ao2 := hI.step hI2 (Nat.le_trans hU.size hUw.size)
      have hHx : Hold w2 p 178 5 1 ao2 (m + (k + 1)) c2 (xs ++ (rs.take (k + 1)).map conv_u8) := by
        rw [List.take_succ_eq_append_getElem (by omega), ← HX.out, List.map_append, ← List.append_assoc]
        exact hH2
      clear hH2 hU2 hI2 hH1 hHW
      go_roundw
      case rel => exact ⟨k + 1, ao2, c2, by omega, by go_num, hHx, hUx, hIx⟩
      case measure => simp [intOf]; omega
    · have hk0 : n ≤ k := by omega
      obtain rfl : k = n := by omega
      go_wp2
      go_end0
      refine ⟨rfl, ao', c', ?_, (hU0.mono (by simp)).trans hU (fun _ h => .inl h), hI.le hU0.size⟩
      rw [List.take_of_length_le (by omega)] at hH
      exact hH
set_option maxRecDepth 100000 in
set_option maxHeartbeats 1000000 in
theorem col_7 (w : World) : Calls Tryz.prog 29 #[.int .i64 7] w fun e w' => e = .returned (.iface 184 (num_u8 w.heap.size)) ∧ w' = w.alloc (.cells #[.slice none 0 0] 178) := by
  go_enter Tryz.func29, Tryz.ntmps29
  simp only [num_u8]
  go_wp2
  go_ret
  exact ⟨rfl, rfl⟩
set_option maxRecDepth 100000 in
set_option maxHeartbeats 1000000 in
theorem col_9 (w : World) : Calls Tryz.prog 29 #[.int .i64 9] w fun e w' => e = .returned (.iface 199 (num_u32 w.heap.size)) ∧ w' = w.alloc (.cells #[.slice none 0 0] 96) := by
  go_enter Tryz.func29, Tryz.ntmps29
  simp only [num_u32]
  go_wp2
  go_ret
  exact ⟨rfl, rfl⟩
theorem methE1_u8 (k p : Nat) (w : World) : (method (k + 1) 184 (num_u8 p) "EncodeColumn").run Tryz.prog w = (method k 177 (.pointer (some ⟨p, 0, none⟩)) "EncodeColumn").run Tryz.prog w := by kernel_rfl
theorem methE2_u8 (k p : Nat) (w : World) : (method (k + 1) 177 (.pointer (some ⟨p, 0, none⟩)) "EncodeColumn").run Tryz.prog w = (do let v ← receiverAt 177 (.val (.pointer (some ⟨p, 0, none⟩))) false (some "EncodeColumn"); pure (183, v) : Sem (FuncId × Value)).run Tryz.prog w := by kernel_rfl
theorem methE3_u8 (p : Nat) (w : World) : (receiverAt 177 (.val (.pointer (some ⟨p, 0, none⟩))) false (some "EncodeColumn")).run Tryz.prog w = (loadVar 178 ⟨p, 0, none⟩).run Tryz.prog w := by kernel_rfl
theorem methE_u8 (p : Nat) (w : World) (v : Value) (h : (loadVar 178 ⟨p, 0, none⟩).run Tryz.prog w = .ok v w) : (method 706 184 (num_u8 p) "EncodeColumn").run Tryz.prog w = .ok (183, v) w := by
  rw [show 706 = (706 - 2) + 1 + 1 from rfl, methE1_u8, methE2_u8]
  simp only [Sem.run_bind, methE3_u8, h, Result.andThen_ok, Sem.run_pure]
theorem methE1_u32 (k p : Nat) (w : World) : (method (k + 1) 199 (num_u32 p) "EncodeColumn").run Tryz.prog w = (method k 95 (.pointer (some ⟨p, 0, none⟩)) "EncodeColumn").run Tryz.prog w := by kernel_rfl
theorem methE2_u32 (k p : Nat) (w : World) : (method (k + 1) 95 (.pointer (some ⟨p, 0, none⟩)) "EncodeColumn").run Tryz.prog w = (do let v ← receiverAt 95 (.val (.pointer (some ⟨p, 0, none⟩))) false (some "EncodeColumn"); pure (201, v) : Sem (FuncId × Value)).run Tryz.prog w := by kernel_rfl
theorem methE3_u32 (p : Nat) (w : World) : (receiverAt 95 (.val (.pointer (some ⟨p, 0, none⟩))) false (some "EncodeColumn")).run Tryz.prog w = (loadVar 96 ⟨p, 0, none⟩).run Tryz.prog w := by kernel_rfl
theorem methE_u32 (p : Nat) (w : World) (v : Value) (h : (loadVar 96 ⟨p, 0, none⟩).run Tryz.prog w = .ok v w) : (method 706 199 (num_u32 p) "EncodeColumn").run Tryz.prog w = .ok (201, v) w := by
  rw [show 706 = (706 - 2) + 1 + 1 from rfl, methE1_u32, methE2_u32]
  simp only [Sem.run_bind, methE3_u32, h, Result.andThen_ok, Sem.run_pure]
theorem loadC_u8 (p : Nat) (w : World) (v : Value) (h : w.cell? ⟨p, 0, none⟩ = some v) : (loadVar 178 ⟨p, 0, none⟩).run Tryz.prog w = .ok v w := by go_simp
theorem loadC_u32 (p : Nat) (w : World) (v : Value) (h : w.cell? ⟨p, 0, none⟩ = some v) : (loadVar 96 ⟨p, 0, none⟩).run Tryz.prog w = .ok v w := by go_simp
set_option maxRecDepth 100000 in
set_option maxHeartbeats 1000000 in
theorem enc_u32 (p : Nat) (ao : Option Addr) (n c : Nat) (vs : List Int)  (w : World) (h : Hold w p 96 53 1 ao n c (vs.map (Value.int .u32))) (hn : n ≤ 100000) :
    Calls Tryz.prog 30 #[.func (Fn.method "EncodeColumn") #[.iface 199 (num_u32 p)] #[]] w (Made w (n * 4) (vs.flatMap (leV 4))) := by
  go_enter Tryz.func30, Tryz.ntmps30
  have hB := newBuf w
  have u1 := (Upd.refl [] w).alloc (Obj.cells #[.slice none 0 0] 210)
  have hh := h.kept u1 (by simp) (by simp)
  have hm := methE_u32 p _ _ (loadC_u32 p _ _ hh.cell)
  have hlt := h.lt
  have hbl := h.own.lt
  have hap : Apart ao w.heap.size none := fun x hx => ⟨by have := hbl x hx; omega, by simp⟩
  go_wp2_with (go_at_call 201; (refine (ColUInt32_EncodeColumn _ _ _ vs _ _ _ _ _ _ hh.own.toView hB hap hh.own.lt (by omega) (by omega)).mono ?_); rintro e w2 ⟨rfl, ao2, c2, hH2, hU2, hI2⟩; have hc2 := hH2.cell)
  go_ret
  exact Made.of (by simp) hH2 hU2 hI2
set_option maxRecDepth 100000 in
set_option maxHeartbeats 1000000 in
theorem enc_u8 (p : Nat) (ao : Option Addr) (n c : Nat) (xs : List Value) (hx1 : ∀ u ∈ xs, u.oneCell' = true) (w : World) (h : Hold w p 178 5 1 ao n c xs) (hn : n ≤ 100000) :
    Calls Tryz.prog 30 #[.func (Fn.method "EncodeColumn") #[.iface 184 (num_u8 p)] #[]] w (Made w n xs) := by
  go_enter Tryz.func30, Tryz.ntmps30
  have hB := newBuf w
  have u1 := (Upd.refl [] w).alloc (Obj.cells #[.slice none 0 0] 210)
  have hh := h.kept u1 (by simp) (by simp)
  have hm := methE_u8 p _ _ (loadC_u8 p _ _ hh.cell)
  have hlt := h.lt
  have hbl := h.own.lt
  go_wp2_with (go_at_call 183; (refine (ColUInt8_EncodeColumn _ _ _ _ _ _ _ _ _ _ hh.own.toView hx1 hB hh.own.lt (by omega) (by omega)).mono ?_); rintro e w2 ⟨rfl, ao2, c2, hH2, hU2, hI2⟩; have hc2 := hH2.cell)
  go_ret
  exact Made.of (by simp) hH2 hU2 hI2
theorem methA_u8 (p : Nat) (w : World) : (method 706 184 (num_u8 p) "given.example/pub-clapboard/impl.add").run Tryz.prog w = .ok (309, num_u8 p) w := by kernel_rfl
theorem methA_u32 (p : Nat) (w : World) : (method 706 199 (num_u32 p) "given.example/pub-clapboard/impl.add").run Tryz.prog w = .ok (324, num_u32 p) w := by kernel_rfl
theorem conv_u8_one (rs : List R4) : ∀ u ∈ rs.map conv_u8, u.oneCell' = true := fun u hu => by
  obtain ⟨r, _, rfl⟩ := List.mem_map.1 hu
  rfl
set_option maxRecDepth 100000 in
set_option maxHeartbeats 1000000 in
theorem NCEncode_9 (ar : Option Addr) (n c : Nat) (rs : List R4) (w : World) (hr : View w 4 ar n (rs.flatMap R4.cells)) (hn : n ≤ 1000) :
    Calls Tryz.prog 9 #[.int .i64 9, .slice ar n c] w (Made w (n * 4) ((rs.map (fun r => IntKind.u32.wrap r.a)).flatMap (leV 4))) := by
  go_enter Tryz.func9, Tryz.ntmps9
  have hh := hold_new w 96 53 1
  have u1 := (Upd.refl [] w).alloc (Obj.cells #[.slice none 0 0] 96)
  have hr1 := hr.upd u1 (by simp)
  have hap : 0 < n → Apart ar w.heap.size none := fun h0 x hx => ⟨by have := hr.lt h0 x hx; omega, by simp⟩
  have hm := methA_u32 w.heap.size
  go_wp2_with (first
    | (go_at_call 29; (refine (col_9 _).mono ?_); rintro e w1 ⟨rfl, rfl⟩)
    | (go_at_call 324; (refine (add_u32 _ _ _ _ rs _ _ _ _ _ hr1 hh hap hn (by omega)).mono ?_); rintro e w2 ⟨rfl, ao2, c2, hH2, hU2, hI2⟩; have hH3 := hH2; rw [Nat.zero_add, List.nil_append, show rs.map conv_u32 = (rs.map (fun r => IntKind.u32.wrap r.a)).map (Value.int .u32) by simp [conv_u32]] at hH3)
    | (go_at_call 30; (refine (enc_u32 _ _ n _ (rs.map (fun r => IntKind.u32.wrap r.a)) _ hH3 (by omega)).mono ?_); rintro e w3 ⟨ao3, c3, rfl, hR3, hU3, hI3⟩))
  go_ret
  have hUa : Upd [] w w2 := u1.trans hU2 (fun y hy => by simp at hy; exact .inr (by omega))
  exact ⟨ao3, c3, rfl, hR3, hUa.trans hU3 (fun _ h => .inl h), hI3.le hUa.size⟩
set_option maxRecDepth 100000 in
set_option maxHeartbeats 1000000 in
theorem NCEncode_7 (ar : Option Addr) (n c : Nat) (rs : List R4) (w : World) (hr : View w 4 ar n (rs.flatMap R4.cells)) (hn : n ≤ 1000) :
    Calls Tryz.prog 9 #[.int .i64 7, .slice ar n c] w (Made w (n) (rs.map conv_u8)) := by
  go_enter Tryz.func9, Tryz.ntmps9
  have hh := hold_new w 178 5 1
  have u1 := (Upd.refl [] w).alloc (Obj.cells #[.slice none 0 0] 178)
  have hr1 := hr.upd u1 (by simp)
  have hap : 0 < n → Apart ar w.heap.size none := fun h0 x hx => ⟨by have := hr.lt h0 x hx; omega, by simp⟩
  have hm := methA_u8 w.heap.size
  go_wp2_with (first
    | (go_at_call 29; (refine (col_7 _).mono ?_); rintro e w1 ⟨rfl, rfl⟩)
    | (go_at_call 309; (refine (add_u8 _ _ _ _ rs _ _ _ _ _ hr1 hh hap hn (by omega)).mono ?_); rintro e w2 ⟨rfl, ao2, c2, hH2, hU2, hI2⟩; have hH3 := hH2; rw [Nat.zero_add, List.nil_append] at hH3)
    | (go_at_call 30; (refine (enc_u8 _ _ n _ _ (conv_u8_one rs) _ hH3 (by omega)).mono ?_); rintro e w3 ⟨ao3, c3, rfl, hR3, hU3, hI3⟩))
  go_ret
  have hUa : Upd [] w w2 := u1.trans hU2 (fun y hy => by simp at hy; exact .inr (by omega))
  exact ⟨ao3, c3, rfl, hR3, hUa.trans hU3 (fun _ h => .inl h), hI3.le hUa.size⟩
end Go.Proofs.YtpehfhdacgjmpaaGreat
