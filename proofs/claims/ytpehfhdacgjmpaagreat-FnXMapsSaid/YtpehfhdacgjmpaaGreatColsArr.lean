/- Columns of arrays of bytes: Append, EncodeColumn. -/
import Derived.Test.YtpehfhdacgjmpaaGreatArr
namespace Go.Proofs.YtpehfhdacgjmpaaGreat
open Go Go.RowKit
theorem flat_get {α : Type} (f : α → List Value) (m : Nat) : ∀ (l : List α) (_ : ∀ a ∈ l, (f a).length = m) (k : Nat) (h : k < l.length) (j : Nat) (_ : j < m), (l.flatMap f)[k * m + j]? = (f l[k])[j]? := by
  intro l
  induction l with
  | nil => intro _ k h; simp at h
  | cons r rs ih =>
    intro hf k h j hj
    have hr := hf r (by simp)
    simp only [List.flatMap_cons]
    cases k with
    | zero => rw [List.getElem?_append_left (by omega)]; simp
    | succ k =>
      rw [List.getElem?_append_right (by rw [Nat.succ_mul]; omega), hr]
      simp only [List.getElem_cons_succ]
      rw [← ih (fun a ha => hf a (by simp [ha])) k (by simpa using h) j hj]
      congr 1
      rw [Nat.succ_mul]
      omega
theorem flatMap_len' {α β : Type} (f : α → List β) (m : Nat) (l : List α) (hf : ∀ a ∈ l, (f a).length = m) : (l.flatMap f).length = l.length * m := by
  induction l with
  | nil => simp
  | cons a l ih =>
    simp only [List.flatMap_cons, List.length_append, List.length_cons]
    rw [hf a (by simp), ih (fun b hb => hf b (by simp [hb])), Nat.succ_mul]
    omega
/-- every one is of n bytes -/
def Arrs (n : Nat) (vs : List (List Value)) : Prop := ∀ v ∈ vs, v.length = n ∧ ∀ u ∈ v, u.oneCell' = true

theorem Tryz.info394 : (Tryz.prog.info? 394).map (fun i => (i.zero, i.size, i.bytes)) = some (some (.agg (Array.replicate 16 (.int .u8 0))), 16, 16) := by kernel_rfl
theorem size_ColIPv6 : (Tryz.prog.info? 394).map (·.size) = some 16 := by kernel_rfl
set_option maxRecDepth 100000 in
set_option maxHeartbeats 400000 in
theorem ColIPv6_Append (p : Nat) (ao : Option Addr) (n c : Nat) (xs : List Value) (x : List Value) (w : World) (h : Hold w p 393 394 16 ao n c xs) (hn : n ≤ 1000000) (hx : x.length = 16) (hx1 : ∀ u ∈ x, u.oneCell' = true) :
    Calls Tryz.prog 551 #[.pointer (some ⟨p, 0, none⟩), .agg x.toArray] w fun e w' => e = .returned (.tuple #[]) ∧ Grew w w' p 393 394 16 ao (n + 1) (xs ++ x) := by
  have hc := h.cell
  have hs : (Tryz.prog.info? 394).map (·.size) = some x.length := by rw [hx]; exact size_ColIPv6
  have hu := Tryz.underlying394
  go_enter Tryz.func551, Tryz.ntmps551
  go_wp2
  have hr : (w.alloc (.cells x.toArray 394)).rangeAt w.heap.size 0 x := rangeAt_blk (heap_alloc_new _ _)
  have hh : Hold (w.alloc (.cells x.toArray 394)) p 393 394 16 ao n c xs := h.kept ((Upd.refl [] w).alloc _) (by simp) (by simp)
  have hlt : w.heap.size < (w.alloc (.cells x.toArray 394)).heap.size := by simp
  have hup := (Upd.refl [] w).alloc (.cells x.toArray 394)
  generalize w.alloc (.cells x.toArray 394) = W at *
  have hc' := hh.cell
  have hpl := hh.lt
  refine wp_region_split (S := Upd [] W) [(false, 0), (true, 1), (true, 2), (true, 3), (true, 4)] [5] [6, 7, 8] (by kernel_rfl) (by kernel_rfl) (fun _ _ d _ _ h => by cases d <;> exact h) ((Upd.refl _ _).drew) ?_
  simp only [readsAt, opersAt, Option.map_some, List.filterMap_cons, List.filterMap_nil, List.getElem?_toArray, List.getElem?_cons_succ, List.getElem?_cons_zero]
  refine ⟨_, Or.inl ⟨by rfl, fun w' hS => by first | (go_simp; done) | (go_simp; with_reducible rfl)⟩, ?_⟩
  simp only [Act.put, List.setIfInBounds_toArray, List.set_cons_zero, List.set_cons_succ]
  refine ⟨_, Or.inl ⟨by rfl, fun w' hS => by first | (go_simp; done) | (go_simp; with_reducible rfl)⟩, ?_⟩
  simp only [Act.put, List.setIfInBounds_toArray, List.set_cons_zero, List.set_cons_succ]
  refine ⟨_, Or.inl ⟨by rfl, fun w' hS => by first | (go_simp; done) | (go_simp; with_reducible rfl)⟩, ?_⟩
  simp only [Act.put, List.setIfInBounds_toArray, List.set_cons_zero, List.set_cons_succ]
  refine ⟨_, Or.inl ⟨by rfl, fun w' hS => by have hc1 := Upd.cell1 hS hc' (by simp); first | (go_simp; done) | (go_simp; with_reducible rfl)⟩, ?_⟩
  simp only [Act.put, List.setIfInBounds_toArray, List.set_cons_zero, List.set_cons_succ]
  refine ⟨_, yieldsIf_load_mid (by rfl) _ _ rfl _ _ rfl x _ (fun w' hS => Upd.range hS hr hlt (by simp)) hu rfl hs, ?_⟩
  simp only [Act.put, List.setIfInBounds_toArray, List.set_cons_zero, List.set_cons_succ]
  intro L0 hL0
  rw [if_pos (by rfl)]
  go_simp; rw [foldl_set _ _ hx]
  refine hL0 _ _ ⟨by exact ((Upd.refl _ _).alloc _).drew, ?_⟩
  clear hL0 L0
  try simp only [preThen]
  change wpList _ _ _ [_, _, _] _ _
  go_wp2_with (at_builtin; refine wpList_app1d _ rfl _ _ 393 rfl 394 _ 16 16 Tryz.underlying393 Tryz.info394 rfl (by decide) hh.own rfl x rfl hx rfl hx1 (by decide) (by omega) ?_; intro ao1 c1 w1 hown1 hupd1 hin1; have hc1 := hh.cell1 hupd1; have hf1 := hh.free1 hupd1)
  go_end0
  exact ⟨rfl, _, _, hh.after hown1 hupd1 hin1, (hup.mono (by simp)).trans (hh.upd hupd1 _) (fun _ h => .inl h), hin1.le hup.size⟩
theorem Tryz.info237 : (Tryz.prog.info? 237).map (fun i => (i.zero, i.size, i.bytes)) = some (some (.agg (Array.replicate 8 (.int .u8 0))), 8, 8) := by kernel_rfl
theorem size_ColFixedStr8 : (Tryz.prog.info? 237).map (·.size) = some 8 := by kernel_rfl
set_option maxRecDepth 100000 in
set_option maxHeartbeats 400000 in
theorem ColFixedStr8_Append (p : Nat) (ao : Option Addr) (n c : Nat) (xs : List Value) (x : List Value) (w : World) (h : Hold w p 236 237 8 ao n c xs) (hn : n ≤ 1000000) (hx : x.length = 8) (hx1 : ∀ u ∈ x, u.oneCell' = true) :
    Calls Tryz.prog 372 #[.pointer (some ⟨p, 0, none⟩), .agg x.toArray] w fun e w' => e = .returned (.tuple #[]) ∧ Grew w w' p 236 237 8 ao (n + 1) (xs ++ x) := by
  have hc := h.cell
  have hs : (Tryz.prog.info? 237).map (·.size) = some x.length := by rw [hx]; exact size_ColFixedStr8
  have hu := Tryz.underlying237
  go_enter Tryz.func372, Tryz.ntmps372
  go_wp2
  have hr : (w.alloc (.cells x.toArray 237)).rangeAt w.heap.size 0 x := rangeAt_blk (heap_alloc_new _ _)
  have hh : Hold (w.alloc (.cells x.toArray 237)) p 236 237 8 ao n c xs := h.kept ((Upd.refl [] w).alloc _) (by simp) (by simp)
  have hlt : w.heap.size < (w.alloc (.cells x.toArray 237)).heap.size := by simp
  have hup := (Upd.refl [] w).alloc (.cells x.toArray 237)
  generalize w.alloc (.cells x.toArray 237) = W at *
  have hc' := hh.cell
  have hpl := hh.lt
  refine wp_region_split (S := Upd [] W) [(false, 0), (true, 1), (true, 2), (true, 3), (true, 4)] [5] [6, 7, 8] (by kernel_rfl) (by kernel_rfl) (fun _ _ d _ _ h => by cases d <;> exact h) ((Upd.refl _ _).drew) ?_
  simp only [readsAt, opersAt, Option.map_some, List.filterMap_cons, List.filterMap_nil, List.getElem?_toArray, List.getElem?_cons_succ, List.getElem?_cons_zero]
  refine ⟨_, Or.inl ⟨by rfl, fun w' hS => by first | (go_simp; done) | (go_simp; with_reducible rfl)⟩, ?_⟩
  simp only [Act.put, List.setIfInBounds_toArray, List.set_cons_zero, List.set_cons_succ]
  refine ⟨_, Or.inl ⟨by rfl, fun w' hS => by first | (go_simp; done) | (go_simp; with_reducible rfl)⟩, ?_⟩
  simp only [Act.put, List.setIfInBounds_toArray, List.set_cons_zero, List.set_cons_succ]
  refine ⟨_, Or.inl ⟨by rfl, fun w' hS => by first | (go_simp; done) | (go_simp; with_reducible rfl)⟩, ?_⟩
  simp only [Act.put, List.setIfInBounds_toArray, List.set_cons_zero, List.set_cons_succ]
  refine ⟨_, Or.inl ⟨by rfl, fun w' hS => by have hc1 := Upd.cell1 hS hc' (by simp); first | (go_simp; done) | (go_simp; with_reducible rfl)⟩, ?_⟩
  simp only [Act.put, List.setIfInBounds_toArray, List.set_cons_zero, List.set_cons_succ]
  refine ⟨_, yieldsIf_load_mid (by rfl) _ _ rfl _ _ rfl x _ (fun w' hS => Upd.range hS hr hlt (by simp)) hu rfl hs, ?_⟩
  simp only [Act.put, List.setIfInBounds_toArray, List.set_cons_zero, List.set_cons_succ]
  intro L0 hL0
  rw [if_pos (by rfl)]
  go_simp; rw [foldl_set _ _ hx]
  refine hL0 _ _ ⟨by exact ((Upd.refl _ _).alloc _).drew, ?_⟩
  clear hL0 L0
  try simp only [preThen]
  change wpList _ _ _ [_, _, _] _ _
  go_wp2_with (at_builtin; refine wpList_app1d _ rfl _ _ 236 rfl 237 _ 8 8 Tryz.underlying236 Tryz.info237 rfl (by decide) hh.own rfl x rfl hx rfl hx1 (by decide) (by omega) ?_; intro ao1 c1 w1 hown1 hupd1 hin1; have hc1 := hh.cell1 hupd1; have hf1 := hh.free1 hupd1)
  go_end0
  exact ⟨rfl, _, _, hh.after hown1 hupd1 hin1, (hup.mono (by simp)).trans (hh.upd hupd1 _) (fun _ h => .inl h), hin1.le hup.size⟩
theorem Tryz.info247 : (Tryz.prog.info? 247).map (fun i => (i.zero, i.size, i.bytes)) = some (some (.agg (Array.replicate 16 (.int .u8 0))), 16, 16) := by kernel_rfl
theorem size_ColFixedStr16 : (Tryz.prog.info? 247).map (·.size) = some 16 := by kernel_rfl
set_option maxRecDepth 100000 in
set_option maxHeartbeats 400000 in
theorem ColFixedStr16_Append (p : Nat) (ao : Option Addr) (n c : Nat) (xs : List Value) (x : List Value) (w : World) (h : Hold w p 246 247 16 ao n c xs) (hn : n ≤ 1000000) (hx : x.length = 16) (hx1 : ∀ u ∈ x, u.oneCell' = true) :
    Calls Tryz.prog 385 #[.pointer (some ⟨p, 0, none⟩), .agg x.toArray] w fun e w' => e = .returned (.tuple #[]) ∧ Grew w w' p 246 247 16 ao (n + 1) (xs ++ x) := by
  have hc := h.cell
  have hs : (Tryz.prog.info? 247).map (·.size) = some x.length := by rw [hx]; exact size_ColFixedStr16
  have hu := Tryz.underlying247
  go_enter Tryz.func385, Tryz.ntmps385
  go_wp2
  have hr : (w.alloc (.cells x.toArray 247)).rangeAt w.heap.size 0 x := rangeAt_blk (heap_alloc_new _ _)
  have hh : Hold (w.alloc (.cells x.toArray 247)) p 246 247 16 ao n c xs := h.kept ((Upd.refl [] w).alloc _) (by simp) (by simp)
  have hlt : w.heap.size < (w.alloc (.cells x.toArray 247)).heap.size := by simp
  have hup := (Upd.refl [] w).alloc (.cells x.toArray 247)
  generalize w.alloc (.cells x.toArray 247) = W at *
  have hc' := hh.cell
  have hpl := hh.lt
  refine wp_region_split (S := Upd [] W) [(false, 0), (true, 1), (true, 2), (true, 3), (true, 4)] [5] [6, 7, 8] (by kernel_rfl) (by kernel_rfl) (fun _ _ d _ _ h => by cases d <;> exact h) ((Upd.refl _ _).drew) ?_
  simp only [readsAt, opersAt, Option.map_some, List.filterMap_cons, List.filterMap_nil, List.getElem?_toArray, List.getElem?_cons_succ, List.getElem?_cons_zero]
  refine ⟨_, Or.inl ⟨by rfl, fun w' hS => by first | (go_simp; done) | (go_simp; with_reducible rfl)⟩, ?_⟩
  simp only [Act.put, List.setIfInBounds_toArray, List.set_cons_zero, List.set_cons_succ]
  refine ⟨_, Or.inl ⟨by rfl, fun w' hS => by first | (go_simp; done) | (go_simp; with_reducible rfl)⟩, ?_⟩
  simp only [Act.put, List.setIfInBounds_toArray, List.set_cons_zero, List.set_cons_succ]
  refine ⟨_, Or.inl ⟨by rfl, fun w' hS => by first | (go_simp; done) | (go_simp; with_reducible rfl)⟩, ?_⟩
  simp only [Act.put, List.setIfInBounds_toArray, List.set_cons_zero, List.set_cons_succ]
  refine ⟨_, Or.inl ⟨by rfl, fun w' hS => by have hc1 := Upd.cell1 hS hc' (by simp); first | (go_simp; done) | (go_simp; with_reducible rfl)⟩, ?_⟩
  simp only [Act.put, List.setIfInBounds_toArray, List.set_cons_zero, List.set_cons_succ]
  refine ⟨_, yieldsIf_load_mid (by rfl) _ _ rfl _ _ rfl x _ (fun w' hS => Upd.range hS hr hlt (by simp)) hu rfl hs, ?_⟩
  simp only [Act.put, List.setIfInBounds_toArray, List.set_cons_zero, List.set_cons_succ]
  intro L0 hL0
  rw [if_pos (by rfl)]
  go_simp; rw [foldl_set _ _ hx]
  refine hL0 _ _ ⟨by exact ((Upd.refl _ _).alloc _).drew, ?_⟩
  clear hL0 L0
  try simp only [preThen]
  change wpList _ _ _ [_, _, _] _ _
  go_wp2_with (at_builtin; refine wpList_app1d _ rfl _ _ 246 rfl 247 _ 16 16 Tryz.underlying246 Tryz.info247 rfl (by decide) hh.own rfl x rfl hx rfl hx1 (by decide) (by omega) ?_; intro ao1 c1 w1 hown1 hupd1 hin1; have hc1 := hh.cell1 hupd1; have hf1 := hh.free1 hupd1)
  go_end0
  exact ⟨rfl, _, _, hh.after hown1 hupd1 hin1, (hup.mono (by simp)).trans (hh.upd hupd1 _) (fun _ h => .inl h), hin1.le hup.size⟩

set_option maxRecDepth 100000 in
set_option maxHeartbeats 400000 in
/-- binPutIPv6: the bytes as they are -/
theorem binPutIPv6 (g off n cp N C : Nat) (xs : List Value) (x : List Value) (w : World) (h : Row w 5 1 (some ⟨g, 0, none⟩) N C xs) (ho : off + 16 ≤ N) (hn : 16 ≤ n) (hx : x.length = 16) (hx1 : ∀ u ∈ x, u.oneCell' = true) :
    Calls Tryz.prog 561 #[.slice (some ⟨g, off, none⟩) n cp, .agg x.toArray] w fun e w' => e = .returned (.tuple #[]) ∧ Row w' 5 1 (some ⟨g, 0, none⟩) N C (putAt xs off x) ∧ Upd [g] w w' := by
  go_enter Tryz.func561, Tryz.ntmps561
  go_wp2_with ((with_reducible show wpList _ _ _ _ _ _); with_reducible refine wpList_copyRow rfl _ _ 29 29 rfl 5 Tryz.underlying29 (by kernel_rfl) rfl (Src.ofRange Tryz.underlying29 (by rw [hx]) (rangeAt_blk (heap_alloc_new w (.cells x.toArray 394))) hx1) rfl (h.alloc (.cells x.toArray 394)) hn ho ?_; intro w1 hr1 hu1)
  go_end0
  exact ⟨rfl, hr1, hu1.ofAlloc⟩

set_option maxRecDepth 100000 in
set_option maxHeartbeats 1000000 in
theorem ColIPv6_EncodeColumn (ac : Option Addr) (n cc : Nat) (vs : List (List Value)) (hvs : Arrs 16 vs) (bp : Nat) (ao : Option Addr) (m cp : Nat) (bs : List Value) (w : World) (hc : View w 16 ac n (vs.flatMap id)) (hb : Hold w bp 210 5 1 ao m cp bs)
    (hap : Apart ac bp ao) (hn : n ≤ 1000000) (hm : m ≤ 100000000) :
    Calls Tryz.prog 554 #[.slice ac n cc, .pointer (some ⟨bp, 0, none⟩)] w fun e w' => e = .returned (.tuple #[]) ∧ Grew w w' bp 210 5 1 ao (m + n * 16) (bs ++ vs.flatMap id) := by
  have hvl : vs.length = n := by have := hc.len; rw [flatMap_len' id 16 vs (fun a ha => (hvs a ha).1)] at this; omega
  have hbl := hb.own.len
  by_cases h0 : n = 0
  · subst h0
    have hv0 : vs = [] := List.eq_nil_of_length_eq_zero hvl
    subst hv0
    go_enter Tryz.func554, Tryz.ntmps554
    go_wp2
    refine bodyPost_ret (results_none rfl _ _ _) rfl ?_
    exact ⟨rfl, ao, cp, by simpa using hb, Upd.refl _ _, In.self (fun _ h => h)⟩
  · have h1 : ((n : Int) == 0) = false := beq_eq_false_iff_ne.2 (by omega)
    have hc0 := hb.cell
    go_enter Tryz.func554, Tryz.ntmps554
    go_wp2_with (at_builtin; refine wpList_zeros _ rfl _ _ 29 3 rfl 5 (.int .u8 0) 1 1 .i64 Tryz.underlying29 Tryz.underlying3 Tryz.info5 rfl (by decide) (by simp [Value.cells, Value.oneCell']) hb.own rfl (16 * n) (by omega) rfl (by omega) (by decide) (by omega) ?_; intro ao1 c1 w1 hown1 hupd1 hin1; have hc1 := hb.cell1 hupd1; have hf1 := hb.free1 hupd1)
    have hH1 := hb.after hown1 hupd1 hin1
    have hU1 := hb.upd hupd1 (.slice ao1 (m + 16 * n) c1)
    clear hown1 hupd1 hc1 hf1
    generalize w1.setCell ⟨bp, 0, none⟩ (.slice ao1 (m + 16 * n) c1) = w2 at *
    obtain ⟨g, rfl⟩ := hH1.own.head (by omega)
    go_loopw [5, 30] (fun off i wr => ∃ k : Nat, k ≤ n ∧ i = .int .i64 k ∧ off = .int .i64 (m + 16 * k : Nat) ∧ Hold wr bp 210 5 1 (some ⟨g, 0, none⟩) (m + 16 * n) c1 (bs ++ (vs.take k).flatMap id ++ List.replicate (16 * (n - k)) (.int .u8 0)) ∧ Upd (bp :: bk ao) w wr)
      (fun _ i _ => n - (intOf i).toNat)
    case atStart => exact ⟨0, Nat.zero_le _, rfl, rfl, by rw [show (Value.int .u8 0).cells = #[Value.int .u8 0] from rfl, zeroCells1] at hH1; simpa using hH1, hU1⟩
    case round =>
      obtain ⟨k, hk, rfl, rfl, hH, hU⟩ := hrel
      by_cases hlt : k < n
      · have hk0 : ((k : Int) < n) := by omega
        obtain ⟨b, o, rfl, hr, hbb⟩ := hc.at_ (by omega)
        have hbn : b ∉ bp :: bk ao := hap.not b (by simp)
        obtain ⟨x, hx⟩ : ∃ x, x = vs[k]'(by omega) := ⟨_, rfl⟩
        obtain ⟨hxl, hx1⟩ := hvs x (by rw [hx]; exact List.getElem_mem _)
        have hrx : wr.rangeAt b (o + k * 16) x := fun j v hv => by
          have hj : j < 16 := by rw [← hxl]; exact (List.getElem?_eq_some_iff.1 hv).1
          have h2 := flat_get id 16 vs (fun a ha => (hvs a ha).1) k (by omega) j hj
          rw [hU.cell hbb hbn, Nat.add_assoc]
          refine hr (k * 16 + j) v (h2.trans ?_)
          rw [← hx]; exact hv
        have hcb := hH.cell
        have hcap : m + 16 * k + 16 ≤ c1 := by have := hH.own.cap; omega
        have hs : (Tryz.prog.info? 394).map (·.size) = some x.length := by rw [hxl]; exact size_ColIPv6
        have hu := Tryz.underlying394
        have HX := Lib.hid hx
        clear hx
        go_wp2_with (first
          | ((with_reducible show wpList _ _ _ _ _ _); with_reducible refine wpList_load_mid rfl 394 _ rfl b (o + k * 16) rfl x _ hrx hu rfl hs ?_)
          | ((with_reducible show wpList _ _ _ _ _ _); with_reducible refine wpList_store_blk rfl 394 _ _ rfl (b := wr.heap.size) rfl (heap_alloc_new _ _) rfl hxl hs hx1 ?_; intro w3 hb3 hu3))
        have hu4 : Upd [] wr w3 := ((Upd.refl [] wr).alloc _).trans hu3 (fun y hy => by simp at hy; exact .inr (by omega))
        clear hu3
        have hH3 := hH.kept hu4 (by simp) (by simp)
        have hcb3 := hH3.cell
        have hb3l := lt_of_block hb3
        have hr3 : w3.rangeAt wr.heap.size 0 x := rangeAt_blk hb3
        simp only [Act.put]
        have hwr : IntKind.i64.wrap ((m : Int) + 16 * k + 16) = m + 16 * k + 16 := IntWalk.i64_in _ (by omega)
        refine wp_region_split (S := Upd [] w3) [(true, 0), (true, 1), (true, 2), (true, 3), (true, 4), (true, 5), (true, 6), (true, 7), (true, 8)] [] [9] (by kernel_rfl) (by kernel_rfl) (fun _ _ d _ _ h => by cases d <;> exact h) ((Upd.refl _ _).drew) ?_
        simp only [readsAt, opersAt, Option.map_some, List.filterMap_cons, List.filterMap_nil, List.getElem?_toArray, List.getElem?_cons_succ, List.getElem?_cons_zero]
        refine ⟨_, Or.inl ⟨by rfl, fun w' hS => by first | (go_simp; done) | (go_simp; with_reducible rfl)⟩, ?_⟩
        simp only [Act.put, List.setIfInBounds_toArray, List.set_cons_zero, List.set_cons_succ]
        refine ⟨_, Or.inl ⟨by rfl, fun w' hS => by first | (go_simp; done) | (go_simp; with_reducible rfl)⟩, ?_⟩
        simp only [Act.put, List.setIfInBounds_toArray, List.set_cons_zero, List.set_cons_succ]
        refine ⟨_, Or.inl ⟨by rfl, fun w' hS => by first | (go_simp; done) | (go_simp; with_reducible rfl)⟩, ?_⟩
        simp only [Act.put, List.setIfInBounds_toArray, List.set_cons_zero, List.set_cons_succ]
        refine ⟨_, Or.inl ⟨by rfl, fun w' hS => by have q1 := Upd.cell1 hS hcb3 (by simp); first | (go_simp; done) | (go_simp; with_reducible rfl)⟩, ?_⟩
        simp only [Act.put, List.setIfInBounds_toArray, List.set_cons_zero, List.set_cons_succ]
        refine ⟨_, Or.inl ⟨by rfl, fun w' hS => by first | (go_simp; done) | (go_simp; with_reducible rfl)⟩, ?_⟩
        simp only [Act.put, List.setIfInBounds_toArray, List.set_cons_zero, List.set_cons_succ]
        refine ⟨_, Or.inl ⟨by rfl, fun w' hS => by first | (go_simp; done) | (go_simp; with_reducible rfl)⟩, ?_⟩
        simp only [Act.put, List.setIfInBounds_toArray, List.set_cons_zero, List.set_cons_succ]
        refine ⟨_, Or.inl ⟨by rfl, fun w' hS => by first | (go_simp; done) | (go_simp; with_reducible rfl)⟩, ?_⟩
        simp only [Act.put, List.setIfInBounds_toArray, List.set_cons_zero, List.set_cons_succ]
        refine ⟨_, yields_slice rfl 29 5 1 _ _ _ rfl Tryz.underlying29 (by kernel_rfl) g 0 _ _ rfl _ _ (m + 16 * k) (m + 16 * k + 16) rfl rfl (by omega) (by omega) (by omega) hcap (by omega) (m + 16 * k) 16 (c1 - (m + 16 * k)) (by omega) (by omega) rfl, ?_⟩
        simp only [Act.put, List.setIfInBounds_toArray, List.set_cons_zero, List.set_cons_succ]
        refine ⟨_, yieldsIf_load_mid (by rfl) _ _ rfl _ _ rfl x _ (fun w' hS => Upd.range hS hr3 hb3l (by simp)) hu rfl hs, ?_⟩
        simp only [Act.put, List.setIfInBounds_toArray, List.set_cons_zero, List.set_cons_succ]
        simp only [readsThen, preThen]
        change wpList _ _ _ [_] _ _
        clear hwr
        go_wp2_with (go_at_call 561; (with_reducible refine (binPutIPv6 g (m + 16 * k) 16 _ (m + 16 * n) c1 _ x _ (World.ownsRow.drew hH3.own) ?_ (by omega) hxl hx1).mono ?_); (· have := Nat.mul_le_mul_left 16 (show k + 1 ≤ n by omega); omega); rintro e wx ⟨rfl, hrow, hux⟩)
        have hstep : putAt (bs ++ (vs.take k).flatMap id ++ List.replicate (16 * (n - k)) (.int .u8 0)) (m + 16 * k) x = bs ++ (vs.take (k + 1)).flatMap id ++ List.replicate (16 * (n - (k + 1))) (.int .u8 0) := by
          rw [flatMap_take_succ _ _ _ (by omega), ← HX.out]
          refine enc_step (r := 16 * (n - (k + 1))) (m := 16) ?_ hxl ?_
          · congr 1; have : n - k = (n - (k + 1)) + 1 := by omega
            rw [this]; omega
          · rw [List.length_append, flatMap_len' id 16 _ (fun a ha => (hvs a (List.mem_of_mem_take ha)).1), List.length_take]; omega
        rw [hstep] at hrow
        have hux' : Upd [g] wr wx := (hu4.mono (by simp)).trans hux.ofDrew (fun _ h => .inl h)
        have hH' : Hold wx bp 210 5 1 (some ⟨g, 0, none⟩) (m + 16 * n) c1 (bs ++ (vs.take (k + 1)).flatMap id ++ List.replicate (16 * (n - (k + 1))) (.int .u8 0)) := ⟨hux'.at hH.blk (fun h => hH.ne (by simpa using h)), hrow, hH.ne⟩
        have hU' : Upd (bp :: bk ao) w wx := hU.trans hux' (fun y hy => by
          simp at hy; subst hy
          rcases hin1 y (by simp) with h | h
          · exact .inl (List.mem_cons_of_mem _ h)
          · exact .inr h)
        clear hstep hrow hux hux' hH hU hH3 hcb3 hr3 hb3 hu4
        go_roundw
        case rel => exact ⟨k + 1, by omega, by go_num, by simp; omega, hH', hU'⟩
        case measure => simp [intOf]; omega
      · have hk0 : n ≤ k := by omega
        obtain rfl : k = n := by omega
        go_wp2
        go_end0
        refine ⟨rfl, some ⟨g, 0, none⟩, c1, ?_, hU, hin1⟩
        rw [List.take_of_length_le (by omega), Nat.sub_self, Nat.mul_zero, List.replicate_zero, List.append_nil] at hH
        rw [Nat.mul_comm k 16]
        exact hH
set_option maxRecDepth 100000 in
set_option maxHeartbeats 1000000 in
theorem ColFixedStr8_EncodeColumn (ac : Option Addr) (n cc : Nat) (vs : List (List Value)) (hvs : Arrs 8 vs) (bp : Nat) (ao : Option Addr) (m cp : Nat) (bs : List Value) (w : World) (hc : View w 8 ac n (vs.flatMap id)) (hb : Hold w bp 210 5 1 ao m cp bs)
    (hap : Apart ac bp ao) (hn : n ≤ 1000000) (hm : m ≤ 100000000) :
    Calls Tryz.prog 375 #[.slice ac n cc, .pointer (some ⟨bp, 0, none⟩)] w fun e w' => e = .returned (.tuple #[]) ∧ Grew w w' bp 210 5 1 ao (m + n * 8) (bs ++ vs.flatMap id) := by
  have hvl : vs.length = n := by have := hc.len; rw [flatMap_len' id 8 vs (fun a ha => (hvs a ha).1)] at this; omega
  have hbl := hb.own.len
  by_cases h0 : n = 0
  · subst h0
    have hv0 : vs = [] := List.eq_nil_of_length_eq_zero hvl
    subst hv0
    go_enter Tryz.func375, Tryz.ntmps375
    go_wp2
    refine bodyPost_ret (results_none rfl _ _ _) rfl ?_
    exact ⟨rfl, ao, cp, by simpa using hb, Upd.refl _ _, In.self (fun _ h => h)⟩
  · have h1 : ((n : Int) == 0) = false := beq_eq_false_iff_ne.2 (by omega)
    have hc0 := hb.cell
    go_enter Tryz.func375, Tryz.ntmps375
    go_wp2_with (at_builtin; refine wpList_zeros _ rfl _ _ 29 3 rfl 5 (.int .u8 0) 1 1 .i64 Tryz.underlying29 Tryz.underlying3 Tryz.info5 rfl (by decide) (by simp [Value.cells, Value.oneCell']) hb.own rfl (8 * n) (by omega) rfl (by omega) (by decide) (by omega) ?_; intro ao1 c1 w1 hown1 hupd1 hin1; have hc1 := hb.cell1 hupd1; have hf1 := hb.free1 hupd1)
    have hH1 := hb.after hown1 hupd1 hin1
    have hU1 := hb.upd hupd1 (.slice ao1 (m + 8 * n) c1)
    clear hown1 hupd1 hc1 hf1
    generalize w1.setCell ⟨bp, 0, none⟩ (.slice ao1 (m + 8 * n) c1) = w2 at *
    obtain ⟨g, rfl⟩ := hH1.own.head (by omega)
    go_loopw [5, 30] (fun off i wr => ∃ k : Nat, k ≤ n ∧ i = .int .i64 k ∧ off = .int .i64 (m + 8 * k : Nat) ∧ Hold wr bp 210 5 1 (some ⟨g, 0, none⟩) (m + 8 * n) c1 (bs ++ (vs.take k).flatMap id ++ List.replicate (8 * (n - k)) (.int .u8 0)) ∧ Upd (bp :: bk ao) w wr)
      (fun _ i _ => n - (intOf i).toNat)
    case atStart => exact ⟨0, Nat.zero_le _, rfl, rfl, by rw [show (Value.int .u8 0).cells = #[Value.int .u8 0] from rfl, zeroCells1] at hH1; simpa using hH1, hU1⟩
    case round =>
      obtain ⟨k, hk, rfl, rfl, hH, hU⟩ := hrel
      by_cases hlt : k < n
      · have hk0 : ((k : Int) < n) := by omega
        obtain ⟨b, o, rfl, hr, hbb⟩ := hc.at_ (by omega)
        have hbn : b ∉ bp :: bk ao := hap.not b (by simp)
        obtain ⟨x, hx⟩ : ∃ x, x = vs[k]'(by omega) := ⟨_, rfl⟩
        obtain ⟨hxl, hx1⟩ := hvs x (by rw [hx]; exact List.getElem_mem _)
        have hrx : wr.rangeAt b (o + k * 8) x := fun j v hv => by
          have hj : j < 8 := by rw [← hxl]; exact (List.getElem?_eq_some_iff.1 hv).1
          have h2 := flat_get id 8 vs (fun a ha => (hvs a ha).1) k (by omega) j hj
          rw [hU.cell hbb hbn, Nat.add_assoc]
          refine hr (k * 8 + j) v (h2.trans ?_)
          rw [← hx]; exact hv
        have hcb := hH.cell
        have hcap : m + 8 * k + 8 ≤ c1 := by have := hH.own.cap; omega
        have hs : (Tryz.prog.info? 237).map (·.size) = some x.length := by rw [hxl]; exact size_ColFixedStr8
        have hu := Tryz.underlying237
        have HX := Lib.hid hx
        clear hx
        go_wp2_with (first
          | ((with_reducible show wpList _ _ _ _ _ _); with_reducible refine wpList_load_mid rfl 237 _ rfl b (o + k * 8) rfl x _ hrx hu rfl hs ?_)
          | ((with_reducible show wpList _ _ _ _ _ _); with_reducible refine wpList_store_blk rfl 237 _ _ rfl (b := wr.heap.size) rfl (heap_alloc_new _ _) rfl hxl hs hx1 ?_; intro w3 hb3 hu3))
        have hu4 : Upd [] wr w3 := ((Upd.refl [] wr).alloc _).trans hu3 (fun y hy => by simp at hy; exact .inr (by omega))
        clear hu3
        have hH3 := hH.kept hu4 (by simp) (by simp)
        have hcb3 := hH3.cell
        have hb3l := lt_of_block hb3
        have hr3 : w3.rangeAt wr.heap.size 0 x := rangeAt_blk hb3
        simp only [Act.put]
        have hwr : IntKind.i64.wrap ((m : Int) + 8 * k + 8) = m + 8 * k + 8 := IntWalk.i64_in _ (by omega)
        refine wp_region_split (S := Upd [] w3) [(true, 0), (true, 1), (true, 2), (true, 3), (true, 4), (true, 5), (true, 6), (true, 7), (true, 8)] [] [9] (by kernel_rfl) (by kernel_rfl) (fun _ _ d _ _ h => by cases d <;> exact h) ((Upd.refl _ _).drew) ?_
        simp only [readsAt, opersAt, Option.map_some, List.filterMap_cons, List.filterMap_nil, List.getElem?_toArray, List.getElem?_cons_succ, List.getElem?_cons_zero]
        refine ⟨_, Or.inl ⟨by rfl, fun w' hS => by first | (go_simp; done) | (go_simp; with_reducible rfl)⟩, ?_⟩
        simp only [Act.put, List.setIfInBounds_toArray, List.set_cons_zero, List.set_cons_succ]
        refine ⟨_, Or.inl ⟨by rfl, fun w' hS => by first | (go_simp; done) | (go_simp; with_reducible rfl)⟩, ?_⟩
        simp only [Act.put, List.setIfInBounds_toArray, List.set_cons_zero, List.set_cons_succ]
        refine ⟨_, Or.inl ⟨by rfl, fun w' hS => by first | (go_simp; done) | (go_simp; with_reducible rfl)⟩, ?_⟩
        simp only [Act.put, List.setIfInBounds_toArray, List.set_cons_zero, List.set_cons_succ]
        refine ⟨_, Or.inl ⟨by rfl, fun w' hS => by have q1 := Upd.cell1 hS hcb3 (by simp); first | (go_simp; done) | (go_simp; with_reducible rfl)⟩, ?_⟩
        simp only [Act.put, List.setIfInBounds_toArray, List.set_cons_zero, List.set_cons_succ]
        refine ⟨_, Or.inl ⟨by rfl, fun w' hS => by first | (go_simp; done) | (go_simp; with_reducible rfl)⟩, ?_⟩
        simp only [Act.put, List.setIfInBounds_toArray, List.set_cons_zero, List.set_cons_succ]
        refine ⟨_, Or.inl ⟨by rfl, fun w' hS => by first | (go_simp; done) | (go_simp; with_reducible rfl)⟩, ?_⟩
        simp only [Act.put, List.setIfInBounds_toArray, List.set_cons_zero, List.set_cons_succ]
        refine ⟨_, Or.inl ⟨by rfl, fun w' hS => by first | (go_simp; done) | (go_simp; with_reducible rfl)⟩, ?_⟩
        simp only [Act.put, List.setIfInBounds_toArray, List.set_cons_zero, List.set_cons_succ]
        refine ⟨_, yields_slice rfl 29 5 1 _ _ _ rfl Tryz.underlying29 (by kernel_rfl) g 0 _ _ rfl _ _ (m + 8 * k) (m + 8 * k + 8) rfl rfl (by omega) (by omega) (by omega) hcap (by omega) (m + 8 * k) 8 (c1 - (m + 8 * k)) (by omega) (by omega) rfl, ?_⟩
        simp only [Act.put, List.setIfInBounds_toArray, List.set_cons_zero, List.set_cons_succ]
        refine ⟨_, Or.inl ⟨by rfl, fun w' hS => by first | (go_simp; done) | (go_simp; with_reducible rfl)⟩, ?_⟩
        simp only [Act.put, List.setIfInBounds_toArray, List.set_cons_zero, List.set_cons_succ]
        simp only [readsThen, preThen]
        change wpList _ _ _ [_] _ _
        clear hwr
        refine wpList_copyRow rfl _ _ 29 29 rfl 5 Tryz.underlying29 (by kernel_rfl) rfl (Src.ofRange Tryz.underlying29 (by rw [hxl]) (show w3.drew.rangeAt wr.heap.size 0 x from hr3) hx1) rfl (World.ownsRow.drew hH3.own) (Nat.le_refl 8) (by have := Nat.mul_le_mul_left 8 (show k + 1 ≤ n by omega); omega) ?_
        intro wx hrow hux
        go_wp2
        have hstep : putAt (bs ++ (vs.take k).flatMap id ++ List.replicate (8 * (n - k)) (.int .u8 0)) (m + 8 * k) x = bs ++ (vs.take (k + 1)).flatMap id ++ List.replicate (8 * (n - (k + 1))) (.int .u8 0) := by
          rw [flatMap_take_succ _ _ _ (by omega), ← HX.out]
          refine enc_step (r := 8 * (n - (k + 1))) (m := 8) ?_ hxl ?_
          · congr 1; have : n - k = (n - (k + 1)) + 1 := by omega
            rw [this]; omega
          · rw [List.length_append, flatMap_len' id 8 _ (fun a ha => (hvs a (List.mem_of_mem_take ha)).1), List.length_take]; omega
        rw [hstep] at hrow
        have hux' : Upd [g] wr wx := (hu4.mono (by simp)).trans hux.ofDrew (fun _ h => .inl h)
        have hH' : Hold wx bp 210 5 1 (some ⟨g, 0, none⟩) (m + 8 * n) c1 (bs ++ (vs.take (k + 1)).flatMap id ++ List.replicate (8 * (n - (k + 1))) (.int .u8 0)) := ⟨hux'.at hH.blk (fun h => hH.ne (by simpa using h)), hrow, hH.ne⟩
        have hU' : Upd (bp :: bk ao) w wx := hU.trans hux' (fun y hy => by
          simp at hy; subst hy
          rcases hin1 y (by simp) with h | h
          · exact .inl (List.mem_cons_of_mem _ h)
          · exact .inr h)
        clear hstep hrow hux hux' hH hU hH3 hcb3 hr3 hb3 hu4
        go_roundw
        case rel => exact ⟨k + 1, by omega, by go_num, by simp; omega, hH', hU'⟩
        case measure => simp [intOf]; omega
      · have hk0 : n ≤ k := by omega
        obtain rfl : k = n := by omega
        go_wp2
        go_end0
        refine ⟨rfl, some ⟨g, 0, none⟩, c1, ?_, hU, hin1⟩
        rw [List.take_of_length_le (by omega), Nat.sub_self, Nat.mul_zero, List.replicate_zero, List.append_nil] at hH
        rw [Nat.mul_comm k 8]
        exact hH
set_option maxRecDepth 100000 in
set_option maxHeartbeats 1000000 in
theorem ColFixedStr16_EncodeColumn (ac : Option Addr) (n cc : Nat) (vs : List (List Value)) (hvs : Arrs 16 vs) (bp : Nat) (ao : Option Addr) (m cp : Nat) (bs : List Value) (w : World) (hc : View w 16 ac n (vs.flatMap id)) (hb : Hold w bp 210 5 1 ao m cp bs)
    (hap : Apart ac bp ao) (hn : n ≤ 1000000) (hm : m ≤ 100000000) :
    Calls Tryz.prog 388 #[.slice ac n cc, .pointer (some ⟨bp, 0, none⟩)] w fun e w' => e = .returned (.tuple #[]) ∧ Grew w w' bp 210 5 1 ao (m + n * 16) (bs ++ vs.flatMap id) := by
  have hvl : vs.length = n := by have := hc.len; rw [flatMap_len' id 16 vs (fun a ha => (hvs a ha).1)] at this; omega
  have hbl := hb.own.len
  by_cases h0 : n = 0
  · subst h0
    have hv0 : vs = [] := List.eq_nil_of_length_eq_zero hvl
    subst hv0
    go_enter Tryz.func388, Tryz.ntmps388
    go_wp2
    refine bodyPost_ret (results_none rfl _ _ _) rfl ?_
    exact ⟨rfl, ao, cp, by simpa using hb, Upd.refl _ _, In.self (fun _ h => h)⟩
  · have h1 : ((n : Int) == 0) = false := beq_eq_false_iff_ne.2 (by omega)
    have hc0 := hb.cell
    go_enter Tryz.func388, Tryz.ntmps388
    go_wp2_with (at_builtin; refine wpList_zeros _ rfl _ _ 29 3 rfl 5 (.int .u8 0) 1 1 .i64 Tryz.underlying29 Tryz.underlying3 Tryz.info5 rfl (by decide) (by simp [Value.cells, Value.oneCell']) hb.own rfl (16 * n) (by omega) rfl (by omega) (by decide) (by omega) ?_; intro ao1 c1 w1 hown1 hupd1 hin1; have hc1 := hb.cell1 hupd1; have hf1 := hb.free1 hupd1)
    have hH1 := hb.after hown1 hupd1 hin1
    have hU1 := hb.upd hupd1 (.slice ao1 (m + 16 * n) c1)
    clear hown1 hupd1 hc1 hf1
    generalize w1.setCell ⟨bp, 0, none⟩ (.slice ao1 (m + 16 * n) c1) = w2 at *
    obtain ⟨g, rfl⟩ := hH1.own.head (by omega)
    go_loopw [5, 30] (fun off i wr => ∃ k : Nat, k ≤ n ∧ i = .int .i64 k ∧ off = .int .i64 (m + 16 * k : Nat) ∧ Hold wr bp 210 5 1 (some ⟨g, 0, none⟩) (m + 16 * n) c1 (bs ++ (vs.take k).flatMap id ++ List.replicate (16 * (n - k)) (.int .u8 0)) ∧ Upd (bp :: bk ao) w wr)
      (fun _ i _ => n - (intOf i).toNat)
    case atStart => exact ⟨0, Nat.zero_le _, rfl, rfl, by rw [show (Value.int .u8 0).cells = #[Value.int .u8 0] from rfl, zeroCells1] at hH1; simpa using hH1, hU1⟩
    case round =>
      obtain ⟨k, hk, rfl, rfl, hH, hU⟩ := hrel
      by_cases hlt : k < n
      · have hk0 : ((k : Int) < n) := by omega
        obtain ⟨b, o, rfl, hr, hbb⟩ := hc.at_ (by omega)
        have hbn : b ∉ bp :: bk ao := hap.not b (by simp)
        obtain ⟨x, hx⟩ : ∃ x, x = vs[k]'(by omega) := ⟨_, rfl⟩
        obtain ⟨hxl, hx1⟩ := hvs x (by rw [hx]; exact List.getElem_mem _)
        have hrx : wr.rangeAt b (o + k * 16) x := fun j v hv => by
          have hj : j < 16 := by rw [← hxl]; exact (List.getElem?_eq_some_iff.1 hv).1
          have h2 := flat_get id 16 vs (fun a ha => (hvs a ha).1) k (by omega) j hj
          rw [hU.cell hbb hbn, Nat.add_assoc]
          refine hr (k * 16 + j) v (h2.trans ?_)
          rw [← hx]; exact hv
        have hcb := hH.cell
        have hcap : m + 16 * k + 16 ≤ c1 := by have := hH.own.cap; omega
        have hs : (Tryz.prog.info? 247).map (·.size) = some x.length := by rw [hxl]; exact size_ColFixedStr16
        have hu := Tryz.underlying247
        have HX := Lib.hid hx
        clear hx
        go_wp2_with (first
          | ((with_reducible show wpList _ _ _ _ _ _); with_reducible refine wpList_load_mid rfl 247 _ rfl b (o + k * 16) rfl x _ hrx hu rfl hs ?_)
          | ((with_reducible show wpList _ _ _ _ _ _); with_reducible refine wpList_store_blk rfl 247 _ _ rfl (b := wr.heap.size) rfl (heap_alloc_new _ _) rfl hxl hs hx1 ?_; intro w3 hb3 hu3))
        have hu4 : Upd [] wr w3 := ((Upd.refl [] wr).alloc _).trans hu3 (fun y hy => by simp at hy; exact .inr (by omega))
        clear hu3
        have hH3 := hH.kept hu4 (by simp) (by simp)
        have hcb3 := hH3.cell
        have hb3l := lt_of_block hb3
        have hr3 : w3.rangeAt wr.heap.size 0 x := rangeAt_blk hb3
        simp only [Act.put]
        have hwr : IntKind.i64.wrap ((m : Int) + 16 * k + 16) = m + 16 * k + 16 := IntWalk.i64_in _ (by omega)
        refine wp_region_split (S := Upd [] w3) [(true, 0), (true, 1), (true, 2), (true, 3), (true, 4), (true, 5), (true, 6), (true, 7), (true, 8)] [] [9] (by kernel_rfl) (by kernel_rfl) (fun _ _ d _ _ h => by cases d <;> exact h) ((Upd.refl _ _).drew) ?_
        simp only [readsAt, opersAt, Option.map_some, List.filterMap_cons, List.filterMap_nil, List.getElem?_toArray, List.getElem?_cons_succ, List.getElem?_cons_zero]
        refine ⟨_, Or.inl ⟨by rfl, fun w' hS => by first | (go_simp; done) | (go_simp; with_reducible rfl)⟩, ?_⟩
        simp only [Act.put, List.setIfInBounds_toArray, List.set_cons_zero, List.set_cons_succ]
        refine ⟨_, Or.inl ⟨by rfl, fun w' hS => by first | (go_simp; done) | (go_simp; with_reducible rfl)⟩, ?_⟩
        simp only [Act.put, List.setIfInBounds_toArray, List.set_cons_zero, List.set_cons_succ]
        refine ⟨_, Or.inl ⟨by rfl, fun w' hS => by first | (go_simp; done) | (go_simp; with_reducible rfl)⟩, ?_⟩
        simp only [Act.put, List.setIfInBounds_toArray, List.set_cons_zero, List.set_cons_succ]
        refine ⟨_, Or.inl ⟨by rfl, fun w' hS => by have q1 := Upd.cell1 hS hcb3 (by simp); first | (go_simp; done) | (go_simp; with_reducible rfl)⟩, ?_⟩
        simp only [Act.put, List.setIfInBounds_toArray, List.set_cons_zero, List.set_cons_succ]
        refine ⟨_, Or.inl ⟨by rfl, fun w' hS => by first | (go_simp; done) | (go_simp; with_reducible rfl)⟩, ?_⟩
        simp only [Act.put, List.setIfInBounds_toArray, List.set_cons_zero, List.set_cons_succ]
        refine ⟨_, Or.inl ⟨by rfl, fun w' hS => by first | (go_simp; done) | (go_simp; with_reducible rfl)⟩, ?_⟩
        simp only [Act.put, List.setIfInBounds_toArray, List.set_cons_zero, List.set_cons_succ]
        refine ⟨_, Or.inl ⟨by rfl, fun w' hS => by first | (go_simp; done) | (go_simp; with_reducible rfl)⟩, ?_⟩
        simp only [Act.put, List.setIfInBounds_toArray, List.set_cons_zero, List.set_cons_succ]
        refine ⟨_, yields_slice rfl 29 5 1 _ _ _ rfl Tryz.underlying29 (by kernel_rfl) g 0 _ _ rfl _ _ (m + 16 * k) (m + 16 * k + 16) rfl rfl (by omega) (by omega) (by omega) hcap (by omega) (m + 16 * k) 16 (c1 - (m + 16 * k)) (by omega) (by omega) rfl, ?_⟩
        simp only [Act.put, List.setIfInBounds_toArray, List.set_cons_zero, List.set_cons_succ]
        refine ⟨_, Or.inl ⟨by rfl, fun w' hS => by first | (go_simp; done) | (go_simp; with_reducible rfl)⟩, ?_⟩
        simp only [Act.put, List.setIfInBounds_toArray, List.set_cons_zero, List.set_cons_succ]
        simp only [readsThen, preThen]
        change wpList _ _ _ [_] _ _
        clear hwr
        refine wpList_copyRow rfl _ _ 29 29 rfl 5 Tryz.underlying29 (by kernel_rfl) rfl (Src.ofRange Tryz.underlying29 (by rw [hxl]) (show w3.drew.rangeAt wr.heap.size 0 x from hr3) hx1) rfl (World.ownsRow.drew hH3.own) (Nat.le_refl 16) (by have := Nat.mul_le_mul_left 16 (show k + 1 ≤ n by omega); omega) ?_
        intro wx hrow hux
        go_wp2
        have hstep : putAt (bs ++ (vs.take k).flatMap id ++ List.replicate (16 * (n - k)) (.int .u8 0)) (m + 16 * k) x = bs ++ (vs.take (k + 1)).flatMap id ++ List.replicate (16 * (n - (k + 1))) (.int .u8 0) := by
          rw [flatMap_take_succ _ _ _ (by omega), ← HX.out]
          refine enc_step (r := 16 * (n - (k + 1))) (m := 16) ?_ hxl ?_
          · congr 1; have : n - k = (n - (k + 1)) + 1 := by omega
            rw [this]; omega
          · rw [List.length_append, flatMap_len' id 16 _ (fun a ha => (hvs a (List.mem_of_mem_take ha)).1), List.length_take]; omega
        rw [hstep] at hrow
        have hux' : Upd [g] wr wx := (hu4.mono (by simp)).trans hux.ofDrew (fun _ h => .inl h)
        have hH' : Hold wx bp 210 5 1 (some ⟨g, 0, none⟩) (m + 16 * n) c1 (bs ++ (vs.take (k + 1)).flatMap id ++ List.replicate (16 * (n - (k + 1))) (.int .u8 0)) := ⟨hux'.at hH.blk (fun h => hH.ne (by simpa using h)), hrow, hH.ne⟩
        have hU' : Upd (bp :: bk ao) w wx := hU.trans hux' (fun y hy => by
          simp at hy; subst hy
          rcases hin1 y (by simp) with h | h
          · exact .inl (List.mem_cons_of_mem _ h)
          · exact .inr h)
        clear hstep hrow hux hux' hH hU hH3 hcb3 hr3 hb3 hu4
        go_roundw
        case rel => exact ⟨k + 1, by omega, by go_num, by simp; omega, hH', hU'⟩
        case measure => simp [intOf]; omega
      · have hk0 : n ≤ k := by omega
        obtain rfl : k = n := by omega
        go_wp2
        go_end0
        refine ⟨rfl, some ⟨g, 0, none⟩, c1, ?_, hU, hin1⟩
        rw [List.take_of_length_le (by omega), Nat.sub_self, Nat.mul_zero, List.replicate_zero, List.append_nil] at hH
        rw [Nat.mul_comm k 16]
        exact hH
end Go.Proofs.YtpehfhdacgjmpaaGreat
