/- Columns of numbers whose rows are one cell: Append, EncodeColumn. -/
import Derived.Test.YtjhhjldonekmpaaGreatDoorPutU
import Derived.Deep.DeepMust
namespace Go.Proofs.YtjhhjldonekmpaaGreatDoor
open Go Go.RowKit
theorem stopHere {p : Prop} (h : RowKit.Hid p) : p := h
/-- how a variable has grown: behind w it holds n elements, ys -/
def Grew (w w' : World) (p : Nat) (T e : TypeId) (size : Nat) (ao : Option Addr) (n : Nat) (ys : List Value) : Prop :=
  ∃ ao' c', Hold w' p T e size ao' n c' ys ∧ Upd (p :: bk ao) w w' ∧ In (bk ao) w.heap.size ao'
theorem Hold.bk_lt {w : World} {p : Nat} {T e : TypeId} {size : Nat} {ao : Option Addr} {n c : Nat} {xs : List Value} (h : Hold w p T e size ao n c xs) : ∀ x, x ∈ bk ao → x < w.heap.size := h.own.lt
/-- a slice and a variable share no block -/
def Apart (ac : Option Addr) (p : Nat) (ao : Option Addr) : Prop := ∀ x, x ∈ bk ac → x ≠ p ∧ x ∉ bk ao
theorem Apart.not {ac : Option Addr} {p : Nat} {ao : Option Addr} (h : Apart ac p ao) : ∀ x, x ∈ bk ac → x ∉ p :: bk ao := fun x hx => by
  obtain ⟨h1, h2⟩ := h x hx; simp [h1, h2]
theorem Apart.grow {ac : Option Addr} {p : Nat} {ao ao' : Option Addr} {B : Nat} (h : Apart ac p ao) (hi : In (bk ao) B ao') (hl : ∀ x, x ∈ bk ac → x < B) : Apart ac p ao' := fun x hx =>
  ⟨(h x hx).1, fun hx' => (hi x hx').elim (h x hx).2 (fun h2 => by have := hl x hx; omega)⟩

theorem Tryz.info97 : (Tryz.prog.info? 97).map (fun i => (i.zero, i.size, i.bytes)) = some (some (.int .u64 0), 1, 8) := by kernel_rfl
set_option maxRecDepth 100000 in
set_option maxHeartbeats 400000 in
theorem ColUInt64_Append (p : Nat) (ao : Option Addr) (n c : Nat) (xs : List Value) (x : Int) (w : World) (h : Hold w p 198 97 1 ao n c xs) (hn : n ≤ 1000000) :
    Calls Tryz.prog 316 #[.pointer (some ⟨p, 0, none⟩), .int .u64 x] w fun e w' => e = .returned (.tuple #[]) ∧ Grew w w' p 198 97 1 ao (n + 1) (xs ++ [.int .u64 x]) := by
  have hc := h.cell
  go_enter Tryz.func316, Tryz.ntmps316
  go_wp2_with (at_builtin; refine wpList_app1 _ rfl _ _ 198 rfl 97 (.int .u64 0) 1 8 Tryz.underlying198 Tryz.info97 rfl (by decide) h.own rfl [.int .u64 x] rfl rfl rfl (by simp [Value.oneCell']) (by decide) (by omega) ?_; intro ao1 c1 w1 hown1 hupd1 hin1; have hc1 := h.cell1 hupd1; have hf1 := h.free1 hupd1)
  go_end0
  exact ⟨rfl, _, _, h.after hown1 hupd1 hin1, h.upd hupd1 _, hin1⟩

set_option maxRecDepth 100000 in
set_option maxHeartbeats 1000000 in
theorem ColUInt64_EncodeColumn (ac : Option Addr) (n cc : Nat) (vs : List Int) (bp : Nat) (ao : Option Addr) (m cp : Nat) (bs : List Value) (w : World) (hc : View w 1 ac n (vs.map (Value.int .u64))) (hb : Hold w bp 46 5 1 ao m cp bs)
    (hap : Apart ac bp ao) (hac : ∀ x, x ∈ bk ac → x < w.heap.size) (hn : n ≤ 1000000) (hm : m ≤ 100000000) :
    Calls Tryz.prog 318 #[.slice ac n cc, .pointer (some ⟨bp, 0, none⟩)] w fun e w' => e = .returned (.tuple #[]) ∧ Grew w w' bp 46 5 1 ao (m + n * 8) (bs ++ vs.flatMap (leV 8)) := by
  have hvl : vs.length = n := by have := hc.len; simpa using this
  have hbl := hb.own.len
  by_cases h0 : n = 0
  · subst h0
    have hv0 : vs = [] := List.eq_nil_of_length_eq_zero hvl
    subst hv0
    go_enter Tryz.func318, Tryz.ntmps318
    go_wp2
    refine bodyPost_ret (results_none rfl _ _ _) rfl ?_
    exact ⟨rfl, ao, cp, by simpa using hb, Upd.refl _ _, In.self (fun _ h => h)⟩
  · have h1 : ((n : Int) == 0) = false := beq_eq_false_iff_ne.2 (by omega)
    have hc0 := hb.cell
    go_enter Tryz.func318, Tryz.ntmps318
    go_wp2_with (at_builtin; refine wpList_zeros _ rfl _ _ 27 3 rfl 5 (.int .u8 0) 1 1 .i64 Tryz.underlying27 Tryz.underlying3 Tryz.info5 rfl (by decide) (by simp [Value.cells, Value.oneCell']) hb.own rfl (8 * n) (by omega) rfl (by omega) (by decide) (by omega) ?_; intro ao1 c1 w1 hown1 hupd1 hin1; have hc1 := hb.cell1 hupd1; have hf1 := hb.free1 hupd1)
    have hH1 := hb.after hown1 hupd1 hin1
    have hU1 := hb.upd hupd1 (.slice ao1 (m + 8 * n) c1)
    clear hown1 hupd1 hc1 hf1
    generalize w1.setCell ⟨bp, 0, none⟩ (.slice ao1 (m + 8 * n) c1) = w2 at *
    obtain ⟨g, rfl⟩ := hH1.own.head (by omega)
    go_loopw [5, 30] (fun off i wr => ∃ k : Nat, k ≤ n ∧ i = .int .i64 k ∧ off = .int .i64 (m + 8 * k : Nat) ∧ Hold wr bp 46 5 1 (some ⟨g, 0, none⟩) (m + 8 * n) c1 (bs ++ (vs.take k).flatMap (leV 8) ++ List.replicate (8 * (n - k)) (.int .u8 0)) ∧ Upd (bp :: bk ao) w wr)
      (fun _ i _ => n - (intOf i).toNat)
    case atStart => exact ⟨0, Nat.zero_le _, rfl, rfl, by rw [show (Value.int .u8 0).cells = #[Value.int .u8 0] from rfl, zeroCells1] at hH1; simpa using hH1, hU1⟩
    case round =>
      obtain ⟨k, hk, rfl, rfl, hH, hU⟩ := hrel
      by_cases hlt : k < n
      · have hk0 : ((k : Int) < n) := by omega
        obtain ⟨b, o, rfl, hr, hbb⟩ := hc.at_ (by omega)
        have hbn : b ∉ bp :: bk ao := hap.not b (by simp)
        have hcell : wr.cell? ⟨b, o + k, none⟩ = some (.int .u64 (vs[k]'(by omega))) := (hU.cell hbb hbn).trans (hr k _ (by simp [hvl, hlt]))
        have hcb := hH.cell
        have hcap : m + 8 * k + 8 ≤ c1 := by have := hH.own.cap; omega
        obtain ⟨x, hx⟩ : ∃ x, x = vs[k]'(by omega) := ⟨_, rfl⟩
        rw [← hx] at hcell
        have HX := Lib.hid hx
        clear hx
        go_wp2
        have hwr : IntKind.i64.wrap ((m : Int) + 8 * k + 8) = m + 8 * k + 8 := IntWalk.i64_in _ (by omega)
        refine wp_region_split (S := Upd [] wr) [(true, 0), (true, 1), (true, 2), (true, 3), (true, 4), (true, 5), (true, 6), (true, 7), (true, 8), (true, 9)] [] [10] (by kernel_rfl) (by kernel_rfl) (fun _ _ d _ _ h => by cases d <;> exact h) ((Upd.refl _ _).drew) ?_
        simp only [readsAt, opersAt, Option.map_some, List.filterMap_cons, List.filterMap_nil, List.getElem?_toArray, List.getElem?_cons_succ, List.getElem?_cons_zero]
        refine ⟨_, Or.inl ⟨by rfl, fun w' hS => by have q1 := Upd.cell1 hS hcb (by simp); first | (go_simp; done) | (go_simp; with_reducible rfl)⟩, ?_⟩
        simp only [Act.put, List.setIfInBounds_toArray, List.set_cons_zero, List.set_cons_succ]
        refine ⟨_, Or.inl ⟨by rfl, fun w' hS => by first | (go_simp; done) | (go_simp; with_reducible rfl)⟩, ?_⟩
        simp only [Act.put, List.setIfInBounds_toArray, List.set_cons_zero, List.set_cons_succ]
        refine ⟨_, Or.inl ⟨by rfl, fun w' hS => by first | (go_simp; done) | (go_simp; with_reducible rfl)⟩, ?_⟩
        simp only [Act.put, List.setIfInBounds_toArray, List.set_cons_zero, List.set_cons_succ]
        refine ⟨_, Or.inl ⟨by rfl, fun w' hS => by first | (go_simp; done) | (go_simp; with_reducible rfl)⟩, ?_⟩
        simp only [Act.put, List.setIfInBounds_toArray, List.set_cons_zero, List.set_cons_succ]
        refine ⟨_, Or.inl ⟨by rfl, fun w' hS => by have q1 := Upd.cell1 hS hcb (by simp); first | (go_simp; done) | (go_simp; with_reducible rfl)⟩, ?_⟩
        simp only [Act.put, List.setIfInBounds_toArray, List.set_cons_zero, List.set_cons_succ]
        refine ⟨_, Or.inl ⟨by rfl, fun w' hS => by first | (go_simp; done) | (go_simp; with_reducible rfl)⟩, ?_⟩
        simp only [Act.put, List.setIfInBounds_toArray, List.set_cons_zero, List.set_cons_succ]
        refine ⟨_, Or.inl ⟨by rfl, fun w' hS => by first | (go_simp; done) | (go_simp; with_reducible rfl)⟩, ?_⟩
        simp only [Act.put, List.setIfInBounds_toArray, List.set_cons_zero, List.set_cons_succ]
        refine ⟨_, Or.inl ⟨by rfl, fun w' hS => by first | (go_simp; done) | (go_simp; with_reducible rfl)⟩, ?_⟩
        simp only [Act.put, List.setIfInBounds_toArray, List.set_cons_zero, List.set_cons_succ]
        refine ⟨_, yields_slice rfl 27 5 1 _ _ _ rfl Tryz.underlying27 (by kernel_rfl) g 0 _ _ rfl _ _ (m + 8 * k) (m + 8 * k + 8) rfl rfl (by omega) (by omega) (by omega) hcap (by omega) (m + 8 * k) 8 (c1 - (m + 8 * k)) (by omega) (by omega) rfl, ?_⟩
        simp only [Act.put, List.setIfInBounds_toArray, List.set_cons_zero, List.set_cons_succ]
        refine ⟨_, Or.inl ⟨by rfl, fun w' hS => by first | (go_simp; done) | (go_simp; with_reducible rfl)⟩, ?_⟩
        simp only [Act.put, List.setIfInBounds_toArray, List.set_cons_zero, List.set_cons_succ]
        try simp only [readsThen, preThen]
        change wpList _ _ _ [_] _ _
        clear hwr
        go_wp2_with (go_at_call 251; (with_reducible refine (PutUint64 g (m + 8 * k) 8 _ (m + 8 * n) c1 _ x _ (World.ownsRow.drew hH.own) ?_ (by omega)).mono ?_); (· have := Nat.mul_le_mul_left 8 (show k + 1 ≤ n by omega); omega); rintro e wx ⟨rfl, hrow, hux⟩)
        have hstep : putAt (bs ++ (vs.take k).flatMap (leV 8) ++ List.replicate (8 * (n - k)) (.int .u8 0)) (m + 8 * k) (leV 8 x) = bs ++ (vs.take (k + 1)).flatMap (leV 8) ++ List.replicate (8 * (n - (k + 1))) (.int .u8 0) := by
          rw [flatMap_take_succ _ _ _ (by omega), ← HX.out]
          refine enc_step (r := 8 * (n - (k + 1))) (m := 8) ?_ (leV_len _ _) ?_
          · congr 1; have : n - k = (n - (k + 1)) + 1 := by omega
            rw [this]; omega
          · rw [List.length_append, flatMap_len _ 8 (leV_len 8), List.length_take]; omega
        rw [hstep] at hrow
        have hux' : Upd [g] wr wx := hux.ofDrew
        have hH' : Hold wx bp 46 5 1 (some ⟨g, 0, none⟩) (m + 8 * n) c1 (bs ++ (vs.take (k + 1)).flatMap (leV 8) ++ List.replicate (8 * (n - (k + 1))) (.int .u8 0)) := ⟨hux'.at hH.blk (fun h => hH.ne (by simpa using h)), hrow, hH.ne⟩
        have hU' : Upd (bp :: bk ao) w wx := hU.trans hux' (fun y hy => by
          simp at hy; subst hy
          rcases hin1 y (by simp) with h | h
          · exact .inl (List.mem_cons_of_mem _ h)
          · exact .inr h)
        clear hstep hrow hux hux' hH hU
        go_roundw
        case rel => exact ⟨k + 1, by omega, by go_num, by simp; omega, hH', hU'⟩
        case measure => simp [intOf]; omega
      · have hk0 : n ≤ k := by omega
        obtain rfl : k = n := by omega
        go_wp2
        go_end0
        refine ⟨rfl, some ⟨g, 0, none⟩, c1, ?_, hU, hin1⟩
        rw [List.take_of_length_le (by omega), Nat.sub_self, Nat.mul_zero, List.replicate_zero, List.append_nil] at hH
        rw [Nat.mul_comm k 8]
        exact hH
theorem Tryz.info22 : (Tryz.prog.info? 22).map (fun i => (i.zero, i.size, i.bytes)) = some (some (.int .u16 0), 1, 2) := by kernel_rfl
set_option maxRecDepth 100000 in
set_option maxHeartbeats 400000 in
theorem ColUInt16_Append (p : Nat) (ao : Option Addr) (n c : Nat) (xs : List Value) (x : Int) (w : World) (h : Hold w p 180 22 1 ao n c xs) (hn : n ≤ 1000000) :
    Calls Tryz.prog 294 #[.pointer (some ⟨p, 0, none⟩), .int .u16 x] w fun e w' => e = .returned (.tuple #[]) ∧ Grew w w' p 180 22 1 ao (n + 1) (xs ++ [.int .u16 x]) := by
  have hc := h.cell
  go_enter Tryz.func294, Tryz.ntmps294
  go_wp2_with (at_builtin; refine wpList_app1 _ rfl _ _ 180 rfl 22 (.int .u16 0) 1 2 Tryz.underlying180 Tryz.info22 rfl (by decide) h.own rfl [.int .u16 x] rfl rfl rfl (by simp [Value.oneCell']) (by decide) (by omega) ?_; intro ao1 c1 w1 hown1 hupd1 hin1; have hc1 := h.cell1 hupd1; have hf1 := h.free1 hupd1)
  go_end0
  exact ⟨rfl, _, _, h.after hown1 hupd1 hin1, h.upd hupd1 _, hin1⟩

set_option maxRecDepth 100000 in
set_option maxHeartbeats 1000000 in
theorem ColUInt16_EncodeColumn (ac : Option Addr) (n cc : Nat) (vs : List Int) (bp : Nat) (ao : Option Addr) (m cp : Nat) (bs : List Value) (w : World) (hc : View w 1 ac n (vs.map (Value.int .u16))) (hb : Hold w bp 46 5 1 ao m cp bs)
    (hap : Apart ac bp ao) (hac : ∀ x, x ∈ bk ac → x < w.heap.size) (hn : n ≤ 1000000) (hm : m ≤ 100000000) :
    Calls Tryz.prog 296 #[.slice ac n cc, .pointer (some ⟨bp, 0, none⟩)] w fun e w' => e = .returned (.tuple #[]) ∧ Grew w w' bp 46 5 1 ao (m + n * 2) (bs ++ vs.flatMap (leV 2)) := by
  have hvl : vs.length = n := by have := hc.len; simpa using this
  have hbl := hb.own.len
  by_cases h0 : n = 0
  · subst h0
    have hv0 : vs = [] := List.eq_nil_of_length_eq_zero hvl
    subst hv0
    go_enter Tryz.func296, Tryz.ntmps296
    go_wp2
    refine bodyPost_ret (results_none rfl _ _ _) rfl ?_
    exact ⟨rfl, ao, cp, by simpa using hb, Upd.refl _ _, In.self (fun _ h => h)⟩
  · have h1 : ((n : Int) == 0) = false := beq_eq_false_iff_ne.2 (by omega)
    have hc0 := hb.cell
    go_enter Tryz.func296, Tryz.ntmps296
    go_wp2_with (at_builtin; refine wpList_zeros _ rfl _ _ 27 3 rfl 5 (.int .u8 0) 1 1 .i64 Tryz.underlying27 Tryz.underlying3 Tryz.info5 rfl (by decide) (by simp [Value.cells, Value.oneCell']) hb.own rfl (2 * n) (by omega) rfl (by omega) (by decide) (by omega) ?_; intro ao1 c1 w1 hown1 hupd1 hin1; have hc1 := hb.cell1 hupd1; have hf1 := hb.free1 hupd1)
    have hH1 := hb.after hown1 hupd1 hin1
    have hU1 := hb.upd hupd1 (.slice ao1 (m + 2 * n) c1)
    clear hown1 hupd1 hc1 hf1
    generalize w1.setCell ⟨bp, 0, none⟩ (.slice ao1 (m + 2 * n) c1) = w2 at *
    obtain ⟨g, rfl⟩ := hH1.own.head (by omega)
    go_loopw [5, 30] (fun off i wr => ∃ k : Nat, k ≤ n ∧ i = .int .i64 k ∧ off = .int .i64 (m + 2 * k : Nat) ∧ Hold wr bp 46 5 1 (some ⟨g, 0, none⟩) (m + 2 * n) c1 (bs ++ (vs.take k).flatMap (leV 2) ++ List.replicate (2 * (n - k)) (.int .u8 0)) ∧ Upd (bp :: bk ao) w wr)
      (fun _ i _ => n - (intOf i).toNat)
    case atStart => exact ⟨0, Nat.zero_le _, rfl, rfl, by rw [show (Value.int .u8 0).cells = #[Value.int .u8 0] from rfl, zeroCells1] at hH1; simpa using hH1, hU1⟩
    case round =>
      obtain ⟨k, hk, rfl, rfl, hH, hU⟩ := hrel
      by_cases hlt : k < n
      · have hk0 : ((k : Int) < n) := by omega
        obtain ⟨b, o, rfl, hr, hbb⟩ := hc.at_ (by omega)
        have hbn : b ∉ bp :: bk ao := hap.not b (by simp)
        have hcell : wr.cell? ⟨b, o + k, none⟩ = some (.int .u16 (vs[k]'(by omega))) := (hU.cell hbb hbn).trans (hr k _ (by simp [hvl, hlt]))
        have hcb := hH.cell
        have hcap : m + 2 * k + 2 ≤ c1 := by have := hH.own.cap; omega
        obtain ⟨x, hx⟩ : ∃ x, x = vs[k]'(by omega) := ⟨_, rfl⟩
        rw [← hx] at hcell
        have HX := Lib.hid hx
        clear hx
        go_wp2
        have hwr : IntKind.i64.wrap ((m : Int) + 2 * k + 2) = m + 2 * k + 2 := IntWalk.i64_in _ (by omega)
        refine wp_region_split (S := Upd [] wr) [(true, 0), (true, 1), (true, 2), (true, 3), (true, 4), (true, 5), (true, 6), (true, 7), (true, 8), (true, 9)] [] [10] (by kernel_rfl) (by kernel_rfl) (fun _ _ d _ _ h => by cases d <;> exact h) ((Upd.refl _ _).drew) ?_
        simp only [readsAt, opersAt, Option.map_some, List.filterMap_cons, List.filterMap_nil, List.getElem?_toArray, List.getElem?_cons_succ, List.getElem?_cons_zero]
        refine ⟨_, Or.inl ⟨by rfl, fun w' hS => by have q1 := Upd.cell1 hS hcb (by simp); first | (go_simp; done) | (go_simp; with_reducible rfl)⟩, ?_⟩
        simp only [Act.put, List.setIfInBounds_toArray, List.set_cons_zero, List.set_cons_succ]
        refine ⟨_, Or.inl ⟨by rfl, fun w' hS => by first | (go_simp; done) | (go_simp; with_reducible rfl)⟩, ?_⟩
        simp only [Act.put, List.setIfInBounds_toArray, List.set_cons_zero, List.set_cons_succ]
        refine ⟨_, Or.inl ⟨by rfl, fun w' hS => by first | (go_simp; done) | (go_simp; with_reducible rfl)⟩, ?_⟩
        simp only [Act.put, List.setIfInBounds_toArray, List.set_cons_zero, List.set_cons_succ]
        refine ⟨_, Or.inl ⟨by rfl, fun w' hS => by first | (go_simp; done) | (go_simp; with_reducible rfl)⟩, ?_⟩
        simp only [Act.put, List.setIfInBounds_toArray, List.set_cons_zero, List.set_cons_succ]
        refine ⟨_, Or.inl ⟨by rfl, fun w' hS => by have q1 := Upd.cell1 hS hcb (by simp); first | (go_simp; done) | (go_simp; with_reducible rfl)⟩, ?_⟩
        simp only [Act.put, List.setIfInBounds_toArray, List.set_cons_zero, List.set_cons_succ]
        refine ⟨_, Or.inl ⟨by rfl, fun w' hS => by first | (go_simp; done) | (go_simp; with_reducible rfl)⟩, ?_⟩
        simp only [Act.put, List.setIfInBounds_toArray, List.set_cons_zero, List.set_cons_succ]
        refine ⟨_, Or.inl ⟨by rfl, fun w' hS => by first | (go_simp; done) | (go_simp; with_reducible rfl)⟩, ?_⟩
        simp only [Act.put, List.setIfInBounds_toArray, List.set_cons_zero, List.set_cons_succ]
        refine ⟨_, Or.inl ⟨by rfl, fun w' hS => by first | (go_simp; done) | (go_simp; with_reducible rfl)⟩, ?_⟩
        simp only [Act.put, List.setIfInBounds_toArray, List.set_cons_zero, List.set_cons_succ]
        refine ⟨_, yields_slice rfl 27 5 1 _ _ _ rfl Tryz.underlying27 (by kernel_rfl) g 0 _ _ rfl _ _ (m + 2 * k) (m + 2 * k + 2) rfl rfl (by omega) (by omega) (by omega) hcap (by omega) (m + 2 * k) 2 (c1 - (m + 2 * k)) (by omega) (by omega) rfl, ?_⟩
        simp only [Act.put, List.setIfInBounds_toArray, List.set_cons_zero, List.set_cons_succ]
        refine ⟨_, Or.inl ⟨by rfl, fun w' hS => by first | (go_simp; done) | (go_simp; with_reducible rfl)⟩, ?_⟩
        simp only [Act.put, List.setIfInBounds_toArray, List.set_cons_zero, List.set_cons_succ]
        try simp only [readsThen, preThen]
        change wpList _ _ _ [_] _ _
        clear hwr
        go_wp2_with (go_at_call 227; (with_reducible refine (PutUint16 g (m + 2 * k) 2 _ (m + 2 * n) c1 _ x _ (World.ownsRow.drew hH.own) ?_ (by omega)).mono ?_); (· have := Nat.mul_le_mul_left 2 (show k + 1 ≤ n by omega); omega); rintro e wx ⟨rfl, hrow, hux⟩)
        have hstep : putAt (bs ++ (vs.take k).flatMap (leV 2) ++ List.replicate (2 * (n - k)) (.int .u8 0)) (m + 2 * k) (leV 2 x) = bs ++ (vs.take (k + 1)).flatMap (leV 2) ++ List.replicate (2 * (n - (k + 1))) (.int .u8 0) := by
          rw [flatMap_take_succ _ _ _ (by omega), ← HX.out]
          refine enc_step (r := 2 * (n - (k + 1))) (m := 2) ?_ (leV_len _ _) ?_
          · congr 1; have : n - k = (n - (k + 1)) + 1 := by omega
            rw [this]; omega
          · rw [List.length_append, flatMap_len _ 2 (leV_len 2), List.length_take]; omega
        rw [hstep] at hrow
        have hux' : Upd [g] wr wx := hux.ofDrew
        have hH' : Hold wx bp 46 5 1 (some ⟨g, 0, none⟩) (m + 2 * n) c1 (bs ++ (vs.take (k + 1)).flatMap (leV 2) ++ List.replicate (2 * (n - (k + 1))) (.int .u8 0)) := ⟨hux'.at hH.blk (fun h => hH.ne (by simpa using h)), hrow, hH.ne⟩
        have hU' : Upd (bp :: bk ao) w wx := hU.trans hux' (fun y hy => by
          simp at hy; subst hy
          rcases hin1 y (by simp) with h | h
          · exact .inl (List.mem_cons_of_mem _ h)
          · exact .inr h)
        clear hstep hrow hux hux' hH hU
        go_roundw
        case rel => exact ⟨k + 1, by omega, by go_num, by simp; omega, hH', hU'⟩
        case measure => simp [intOf]; omega
      · have hk0 : n ≤ k := by omega
        obtain rfl : k = n := by omega
        go_wp2
        go_end0
        refine ⟨rfl, some ⟨g, 0, none⟩, c1, ?_, hU, hin1⟩
        rw [List.take_of_length_le (by omega), Nat.sub_self, Nat.mul_zero, List.replicate_zero, List.append_nil] at hH
        rw [Nat.mul_comm k 2]
        exact hH
end Go.Proofs.YtjhhjldonekmpaaGreatDoor
