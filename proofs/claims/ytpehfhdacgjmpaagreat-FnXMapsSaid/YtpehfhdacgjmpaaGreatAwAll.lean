/- The rest of ncAwake: the rows read, the deferred catch, NCDecode, and what is compared. -/
import Derived.Test.YtpehfhdacgjmpaaGreatEncs
import Derived.Test.YtpehfhdacgjmpaaGreatAwRead
import Derived.Recover
import Derived.Defers
namespace Go.Proofs.YtpehfhdacgjmpaaGreat
open Go Go.RowKit
set_option maxRecDepth 100000 in
theorem caught_idle (p : Addr) (w : World) :
    CallsD Tryz.prog 99 #[.pointer (some p)] .returning w fun e u' w' => e = .returned (.tuple #[]) ∧ u' = .returning ∧ w' = w := by
  refine callsD_of_wpS Tryz.func99 rfl fun c₀ cs hu => ?_
  apply wpS_seq
  apply wpS_region
  simp [wpOpsS, go_sem, recoverD, hu, Tryz.ntmps99, Exit.thenS]
  refine wpS_cond (t := false) (by simp [Act.eval, Array.replicate]) ?_
  simp only [Bool.false_eq_true, if_false]
  refine wpS_of_wp (wp_skip ?_)
  cases c₀
  simp_all [bodyPostS, results, Tryz.results99]
set_option maxRecDepth 100000 in
set_option maxHeartbeats 400000 in
theorem NewReader (ad : Option Addr) (n c : Nat) (w : World) : Calls Tryz.prog 100 #[.slice ad n c] w fun e w' => e = .returned (.pointer (some ⟨w.heap.size + 1, 0, none⟩)) ∧ w' = (w.alloc (.cells #[.slice none 0 0] 210)).alloc (.cells #[.slice ad n c, .pointer (some ⟨w.heap.size, 0, none⟩)] 436) := by
  go_enter Tryz.func100, Tryz.ntmps100
  go_wp2
  go_ret
  exact ⟨rfl, rfl⟩
set_option maxRecDepth 100000 in
set_option maxHeartbeats 400000 in
theorem out_u16 (x : Int) (w : World) : Calls Tryz.prog 74 #[.int .u16 x] w fun e w' => e = .returned (.agg #[.int .u64 (IntKind.u64.wrap x), .int .u64 0, .int .u64 0, .int .u64 0]) ∧ Upd [] w w' := by
  go_enter Tryz.func74, Tryz.ntmps74
  go_wp2
  refine bodyPost_ret (v := .agg #[.int .u64 (IntKind.u64.wrap x), .int .u64 0, .int .u64 0, .int .u64 0]) (results_cell1 Tryz.results74 (b := w.heap.size) rfl ?_) rfl ⟨rfl, (Upd.refl _ _).alloc _⟩
  exact run_loadVar_mid _ w.heap.size 0 28 [.int .u64 (IntKind.u64.wrap x), .int .u64 0, .int .u64 0, .int .u64 0] _ (rangeAt_blk (heap_alloc_new _ _)) Tryz.underlying28 rfl (by kernel_rfl)
set_option maxRecDepth 100000 in
set_option maxHeartbeats 400000 in
theorem Rows_u16 (ao : Option Addr) (n c : Nat) (w : World) : Calls Tryz.prog 318 #[.slice ao n c] w fun e w' => e = .returned (.int .i64 n) ∧ w' = w := by
  go_enter Tryz.func318, Tryz.ntmps318
  go_wp2
  go_ret
  exact ⟨rfl, rfl⟩
set_option maxRecDepth 100000 in
set_option maxHeartbeats 400000 in
theorem Row_u16 (g c : Nat) (x : Int) (w : World) (h : w.cell? ⟨g, 0, none⟩ = some (.int .u16 x)) : Calls Tryz.prog 317 #[.slice (some ⟨g, 0, none⟩) 1 c, .int .i64 0] w fun e w' => e = .returned (.int .u16 x) ∧ w' = w := by
  go_enter Tryz.func317, Tryz.ntmps317
  go_wp2
  go_ret
  exact ⟨rfl, rfl⟩
theorem methRow1 (k p : Nat) (w : World) : (method (k + 1) 185 (.pointer (some ⟨p, 0, none⟩)) "Row").run Tryz.prog w = (do let v ← receiverAt 185 (.val (.pointer (some ⟨p, 0, none⟩))) false (some "Row"); pure (317, v) : Sem (FuncId × Value)).run Tryz.prog w := by kernel_rfl
theorem methRow2 (p : Nat) (w : World) : (receiverAt 185 (.val (.pointer (some ⟨p, 0, none⟩))) false (some "Row")).run Tryz.prog w = (loadVar 187 ⟨p, 0, none⟩).run Tryz.prog w := by kernel_rfl
theorem methRow (p : Nat) (w : World) (v : Value) (h : w.cell? ⟨p, 0, none⟩ = some v) : (method 706 185 (.pointer (some ⟨p, 0, none⟩)) "Row").run Tryz.prog w = .ok (317, v) w := by
  rw [show 706 = (706 - 1) + 1 from rfl, methRow1]
  simp only [Sem.run_bind, methRow2, loadC_u16 p w v h, Result.andThen_ok, Sem.run_pure]
theorem methRows1 (k p : Nat) (w : World) : (method (k + 1) 193 (num_u16 p) "Rows").run Tryz.prog w = (method k 185 (.pointer (some ⟨p, 0, none⟩)) "Rows").run Tryz.prog w := by kernel_rfl
theorem methRows2 (k p : Nat) (w : World) : (method (k + 1) 185 (.pointer (some ⟨p, 0, none⟩)) "Rows").run Tryz.prog w = (do let v ← receiverAt 185 (.val (.pointer (some ⟨p, 0, none⟩))) false (some "Rows"); pure (318, v) : Sem (FuncId × Value)).run Tryz.prog w := by kernel_rfl
theorem methRows3 (p : Nat) (w : World) : (receiverAt 185 (.val (.pointer (some ⟨p, 0, none⟩))) false (some "Rows")).run Tryz.prog w = (loadVar 187 ⟨p, 0, none⟩).run Tryz.prog w := by kernel_rfl
theorem methRows (p : Nat) (w : World) (v : Value) (h : w.cell? ⟨p, 0, none⟩ = some v) : (method 706 193 (num_u16 p) "Rows").run Tryz.prog w = .ok (318, v) w := by
  rw [show 706 = (706 - 2) + 1 + 1 from rfl, methRows1, methRows2]
  simp only [Sem.run_bind, methRows3, loadC_u16 p w v h, Result.andThen_ok, Sem.run_pure]
theorem methDec (p : Nat) (w : World) : (method 706 193 (num_u16 p) "DecodeColumn").run Tryz.prog w = .ok (314, .pointer (some ⟨p, 0, none⟩)) w := by kernel_rfl
theorem methAt (p : Nat) (w : World) : (method 706 193 (num_u16 p) "given.example/pub-clapboard/impl.at").run Tryz.prog w = .ok (323, num_u16 p) w := by kernel_rfl
set_option maxRecDepth 100000 in
set_option maxHeartbeats 400000 in
theorem at_u16 (p g c : Nat) (w : World) (h : Hold w p 187 128 1 (some ⟨g, 0, none⟩) 1 c [.int .u16 513]) : Calls Tryz.prog 323 #[num_u16 p, .int .i64 0] w fun e w' => e = .returned (.agg #[.int .u64 513, .int .u64 0, .int .u64 0, .int .u64 0]) ∧ Upd [] w w' := by
  go_enter Tryz.func323, Tryz.ntmps323
  simp only [num_u16]
  go_wp2
  obtain ⟨k1, u1, s1⟩ := alloc_facts w (Obj.cells #[.iface 185 (.pointer (some ⟨p, 0, none⟩)), .func (Fn.func 73) #[] #[], .func (Fn.func 74) #[] #[]] 193)
  obtain ⟨k2, u2, s2⟩ := alloc_facts (w.alloc (Obj.cells #[.iface 185 (.pointer (some ⟨p, 0, none⟩)), .func (Fn.func 73) #[] #[], .func (Fn.func 74) #[] #[]] 193)) (Obj.cells #[.int .u64 0, .int .u64 0, .int .u64 0, .int .u64 0] 28)
  generalize (w.alloc (Obj.cells #[.iface 185 (.pointer (some ⟨p, 0, none⟩)), .func (Fn.func 73) #[] #[], .func (Fn.func 74) #[] #[]] 193)).alloc (Obj.cells #[.int .u64 0, .int .u64 0, .int .u64 0, .int .u64 0] 28) = W at *
  rw [s1] at k2 s2
  have u12 := u1.trans u2 (fun _ h => .inl h)
  have hh := h.kept u12 (by simp) (by simp)
  have kk := u2.at k1 (by simp)
  have q0 : W.cell? ⟨w.heap.size, 0, none⟩ = some (.iface 185 (.pointer (some ⟨p, 0, none⟩))) := by simp [World.cell?, kk]
  have q2 : W.cell? ⟨w.heap.size, 2, none⟩ = some (.func (Fn.func 74) #[] #[]) := by simp [World.cell?, kk]
  clear k1 u1 kk u2
  have hrow : W.drew.cell? ⟨g, 0, none⟩ = some (.int .u16 513) := hh.own.cell rfl
  have hmr := methRow p W.drew _ hh.cell
  refine wp_region_split (S := Upd [] W) [(true, 0), (true, 1), (true, 2), (true, 3), (true, 4)] [5] [6, 7] (by kernel_rfl) (by kernel_rfl) (fun _ _ d _ _ h => by cases d <;> exact h) ((Upd.refl _ _).drew) ?_
  simp only [readsAt, opersAt, Option.map_some, List.filterMap_cons, List.filterMap_nil, List.getElem?_toArray, List.getElem?_cons_succ, List.getElem?_cons_zero]
  refine ⟨_, Or.inl ⟨by rfl, fun w' hS => by first | (go_simp; done) | (go_simp; with_reducible rfl)⟩, ?_⟩
  simp only [Act.put, List.setIfInBounds_toArray, List.set_cons_zero, List.set_cons_succ]
  refine ⟨_, Or.inl ⟨by rfl, fun w' hS => by have e0 := Upd.cell1 hS q0 (by simp); have e1 := Upd.cell1 hS q2 (by simp); first | (go_simp; done) | (go_simp; with_reducible rfl)⟩, ?_⟩
  simp only [Act.put, List.setIfInBounds_toArray, List.set_cons_zero, List.set_cons_succ]
  refine ⟨_, Or.inl ⟨by rfl, fun w' hS => by first | (go_simp; done) | (go_simp; with_reducible rfl)⟩, ?_⟩
  simp only [Act.put, List.setIfInBounds_toArray, List.set_cons_zero, List.set_cons_succ]
  refine ⟨_, Or.inl ⟨by rfl, fun w' hS => by have e0 := Upd.cell1 hS q0 (by simp); have e1 := Upd.cell1 hS q2 (by simp); first | (go_simp; done) | (go_simp; with_reducible rfl)⟩, ?_⟩
  simp only [Act.put, List.setIfInBounds_toArray, List.set_cons_zero, List.set_cons_succ]
  refine ⟨_, Or.inl ⟨by rfl, fun w' hS => by first | (go_simp; done) | (go_simp; with_reducible rfl)⟩, ?_⟩
  simp only [Act.put, List.setIfInBounds_toArray, List.set_cons_zero, List.set_cons_succ]
  intro L0 hL0
  rw [if_pos (by rfl)]
  go_simp; refine (Row_u16 g c 513 _ hrow).mono ?_; rintro e w1 ⟨rfl, rfl⟩
  refine hL0 _ _ ⟨(Upd.refl [] W).drew, ?_⟩
  clear hL0 L0
  try simp only [preThen]
  change wpList _ _ _ [_, _] _ _
  have m1 := (Upd.refl [] W).drew.at k2 (by simp)
  go_wp2_with (first
    | (go_at_call 74; (refine (out_u16 _ _).mono ?_); rintro e w2 ⟨rfl, hu2⟩; have m2 := hu2.at m1 (by simp))
    | ((with_reducible show wpList _ _ _ _ _ _); refine wpList_store_blk rfl 28 (.tmp 4) (.tmp 11) rfl (b := w.heap.size + 1) rfl m2 (cs := [.int .u64 513, .int .u64 0, .int .u64 0, .int .u64 0]) rfl rfl (by kernel_rfl) (by simp [Value.oneCell']) ?_; intro w4 hb4 hu4; simp only [Act.put]))
  refine bodyPost_ret (v := .agg #[.int .u64 513, .int .u64 0, .int .u64 0, .int .u64 0]) (results_cell1 Tryz.results323 (b := w.heap.size + 1) rfl (run_loadVar_mid w4 (w.heap.size + 1) 0 28 [.int .u64 513, .int .u64 0, .int .u64 0, .int .u64 0] _ (rangeAt_blk hb4) Tryz.underlying28 rfl (by kernel_rfl))) rfl ⟨rfl, ?_⟩
  exact ((u12.trans hu2.ofDrew (fun _ h => .inl h)).trans hu4 (fun y hy => by simp at hy; exact .inr (by omega)))


set_option maxRecDepth 100000 in
set_option maxHeartbeats 400000 in
theorem all_u16_0 (p : Nat) (c : Nat) (w : World) (h : w.cell? ⟨p, 0, none⟩ = some (.slice none 0 c)) : Calls Tryz.prog 101 #[.iface 193 (num_u16 p)] w fun e w' => e = .returned (.slice none 0 0) ∧ w' = w := by
  have hm := methRows p w _ h
  go_enter Tryz.func101, Tryz.ntmps101
  go_wp2
  go_loopw [3, 4] (fun v i wr => v = .slice none 0 0 ∧ i = .int .i64 0 ∧ wr = w)
    (fun _ i _ => 2 - (intOf i).toNat)
  case atStart => exact ⟨rfl, rfl, rfl⟩
  case round =>
    obtain ⟨rfl, rfl, hw⟩ := hrel
    have hm' : (method 706 193 (num_u16 p) "Rows").run Tryz.prog wr = .ok (318, .slice none 0 c) wr := by rw [hw]; exact hm
    go_wp2_with (first
      | (go_at_call 318; (refine (Rows_u16 _ _ _ _).mono ?_); rintro e w2 ⟨rfl, hw2⟩))
    go_ret
    exact ⟨rfl, by first | rfl | exact hw2⟩
theorem Tryz.info28 : (Tryz.prog.info? 28).map (fun i => (i.zero, i.size, i.bytes)) = some (some (.agg #[.int .u64 0, .int .u64 0, .int .u64 0, .int .u64 0]), 4, 32) := by kernel_rfl
def row513 : List Value := [.int .u64 513, .int .u64 0, .int .u64 0, .int .u64 0]
set_option maxRecDepth 100000 in
set_option maxHeartbeats 400000 in
theorem all_u16_1 (p g c : Nat) (w : World) (h : Hold w p 187 128 1 (some ⟨g, 0, none⟩) 1 c [.int .u16 513]) : Calls Tryz.prog 101 #[.iface 193 (num_u16 p)] w fun e w' => (∃ ao c', e = .returned (.slice ao 1 c') ∧ Row w' 28 4 ao 1 c' row513 ∧ In [] w.heap.size ao) ∧ Upd [] w w' := by
  go_enter Tryz.func101, Tryz.ntmps101
  go_wp2
  have hat := methAt p
  go_loopw [3, 4] (fun v i wr => (i = .int .i64 0 ∧ v = .slice none 0 0 ∧ Upd [] w wr) ∨ ∃ (ao : Option Addr) (c : Nat), i = .int .i64 1 ∧ v = .slice ao 1 c ∧ Row wr 28 4 ao 1 c row513 ∧ Upd [] w wr ∧ In [] w.heap.size ao)
    (fun _ i _ => 2 - (intOf i).toNat)
  case atStart => exact .inl ⟨rfl, rfl, Upd.refl _ _⟩
  case round =>
    rcases hrel with ⟨rfl, rfl, hU⟩ | ⟨ao, c1, rfl, rfl, hR, hU, hIn⟩
    · have h' := h.kept hU (by simp) (by simp)
      have hm := methRows p wr _ h'.cell
      go_wp2_with (first
        | (go_at_call 318; (refine (Rows_u16 _ _ _ _).mono ?_); rintro e w2 ⟨rfl, rfl⟩)
        | (go_at_call 323; (refine (at_u16 p g c _ h').mono ?_); rintro e w2 ⟨rfl, hu2⟩)
        | (at_builtin; (refine wpList_app1 _ rfl _ _ 22 rfl 28 (.agg #[.int .u64 0, .int .u64 0, .int .u64 0, .int .u64 0]) 4 32 Tryz.underlying22 Tryz.info28 rfl (by decide) Row.nil rfl row513 rfl rfl rfl (by simp [row513, Value.oneCell']) (by decide) (by omega) ?_); intro ao1 c1 w3 hown1 hupd1 hin1))
      have hU2 : Upd [] w w3 := (hU.trans hu2 (by simp)).trans hupd1 (by simp)
      go_roundw
      case rel => exact .inr ⟨ao1, c1, rfl, rfl, hown1, hU2, hin1.le (hU.trans hu2 (by simp)).size⟩
      case measure => simp [intOf]
    · have hm := methRows p wr _ ((h.kept hU (by simp) (by simp)).cell)
      go_wp2_with (first
        | (go_at_call 318; (refine (Rows_u16 _ _ _ _).mono ?_); rintro e w2 ⟨rfl, rfl⟩))
      go_ret
      exact ⟨⟨ao, c1, rfl, hR, hIn⟩, hU⟩

set_option maxRecDepth 100000 in
set_option maxHeartbeats 1000000 in
theorem NCDecode_aw (d : Nat) (w : World) (hd : w.heap[d]? = some (.cells #[.int .u8 1, .int .u8 2] 5 (0, 0))) :
    Calls Tryz.prog 32 #[.int .i64 8, .slice (some ⟨d, 0, none⟩) 2 2, .int .i64 1, .int .i64 0] w fun e w' => (∃ ao c' s, e = .returned (.tuple #[.slice ao 1 c', s, .bool true]) ∧ Row w' 28 4 ao 1 c' row513) ∧ Upd [] w w' := by
  have hmf : ∀ (fn : Fn) (first cap : Array Value) (w : World), (Instr.makeFunc fn first cap).run Tryz.prog w = .ok (.func fn first cap) w := fun _ _ _ _ => rfl
  have ld := lt_of_block hd
  have hmd := methDec
  go_enter_defers Tryz.func32, Tryz.ntmps32
  go_wp2_with (first
    | (go_at_call 29; (refine (col_8 _).mono ?_); rintro e w2 ⟨rfl, rfl⟩)
    | (go_at_call 100; (refine (NewReader _ _ _ _).mono ?_); rintro e w2 ⟨rfl, rfl⟩)
    | (go_at_call 314; apply stopHere))
  show Calls _ _ _ _ _
  obtain ⟨k1, u1, s1⟩ := alloc_facts w (Obj.cells #[.bool false] 4)
  obtain ⟨k2, u2, s2⟩ := alloc_facts (w.alloc (Obj.cells #[.bool false] 4)) (Obj.cells #[.slice none 0 0] 187)
  obtain ⟨k3, u3, s3⟩ := alloc_facts ((w.alloc (Obj.cells #[.bool false] 4)).alloc (Obj.cells #[.slice none 0 0] 187)) (Obj.cells #[.slice none 0 0] 187)
  obtain ⟨k4, u4, s4⟩ := alloc_facts (((w.alloc (Obj.cells #[.bool false] 4)).alloc (Obj.cells #[.slice none 0 0] 187)).alloc (Obj.cells #[.slice none 0 0] 187)) (Obj.cells #[.slice none 0 0] 210)
  obtain ⟨k5, u5, s5⟩ := alloc_facts ((((w.alloc (Obj.cells #[.bool false] 4)).alloc (Obj.cells #[.slice none 0 0] 187)).alloc (Obj.cells #[.slice none 0 0] 187)).alloc (Obj.cells #[.slice none 0 0] 210)) (Obj.cells #[.slice (some ⟨d, 0, none⟩) 2 2, .pointer (some ⟨w.heap.size + 1 + 1 + 1, 0, none⟩)] 436)
  generalize ((((w.alloc (Obj.cells #[.bool false] 4)).alloc (Obj.cells #[.slice none 0 0] 187)).alloc (Obj.cells #[.slice none 0 0] 187)).alloc (Obj.cells #[.slice none 0 0] 210)).alloc (Obj.cells #[.slice (some ⟨d, 0, none⟩) 2 2, .pointer (some ⟨w.heap.size + 1 + 1 + 1, 0, none⟩)] 436) = W5 at *
  generalize (((w.alloc (Obj.cells #[.bool false] 4)).alloc (Obj.cells #[.slice none 0 0] 187)).alloc (Obj.cells #[.slice none 0 0] 187)).alloc (Obj.cells #[.slice none 0 0] 210) = W4 at *
  generalize ((w.alloc (Obj.cells #[.bool false] 4)).alloc (Obj.cells #[.slice none 0 0] 187)).alloc (Obj.cells #[.slice none 0 0] 187) = W3 at *
  generalize (w.alloc (Obj.cells #[.bool false] 4)).alloc (Obj.cells #[.slice none 0 0] 187) = W2 at *
  generalize w.alloc (Obj.cells #[.bool false] 4) = W1 at *
  rw [s1] at k2 s2
  rw [s2] at k3 s3
  rw [s3] at k4 s4
  rw [s4] at k5 s5
  have c1 := u5.at (u4.at (u3.at (u2.at k1 (by simp)) (by simp)) (by simp)) (by simp)
  have c2 := u5.at (u4.at (u3.at k2 (by simp)) (by simp)) (by simp)
  have c3 := u5.at (u4.at k3 (by simp)) (by simp)
  have c4 := u5.at k4 (by simp)
  have cd := u5.at (u4.at (u3.at (u2.at (u1.at hd (by simp)) (by simp)) (by simp)) (by simp)) (by simp)
  have uw : Upd [] w W5 := (((u1.trans u2 (fun _ h => .inl h)).trans u3 (fun _ h => .inl h)).trans u4 (fun _ h => .inl h)).trans u5 (fun _ h => .inl h)
  clear u1 u2 u3 u4 u5 k1 k2 k3 k4 s1 s2 s3 s4
  have hH : Hold W5 (w.heap.size + 1) 187 128 1 none 0 0 [] := ⟨c2, Row.nil, by simp⟩
  refine (DecodeColumn1 _ _ (w.heap.size + 1 + 1 + 1) d _ k5 cd c4 (by omega) (by omega) hH ⟨by omega, by omega⟩).mono ?_
  rintro e w2 ⟨rfl, ⟨ao2, c2', hH2, hI2⟩, hu2⟩
  dsimp only
  obtain ⟨g, rfl⟩ := hH2.own.head (by omega)
  have d1 := hu2.at c1 (by simp; omega)
  have d3 := hu2.at c3 (by simp)
  go_wp2_with (first
    | (go_at_call 101; (with_reducible refine (all_u16_1 _ g _ _ hH2).mono ?_); rintro e w3 ⟨⟨ao3, c3', rfl, hR3, hI3⟩, hu3⟩; have e1 := hu3.at d1 (by simp); have e3 := cell_of_one (hu3.at d3 (by simp)); have e0 := cell_of_one e1; have f0 := free_of_one e1)
    | (go_at_call 101; (refine (all_u16_0 _ _ _ e3).mono ?_); rintro e w5 ⟨rfl, rfl⟩)
    | (go_at_call 314; (refine (DecodeColumn0 _ _ _).mono ?_); rintro e w4 ⟨rfl, rfl⟩))
  have uw2 : Upd [] w w2 := uw.trans hu2 (fun y hy => by simp at hy; exact .inr (by omega))
  have hup := (uw2.trans hu3 (fun _ h => .inl h)).setCell (p := ⟨w.heap.size, 0, none⟩) (Value.bool true) (.inr (Nat.le_refl _))
  have hne : w.heap.size ∉ bk ao3 := fun hx => by
    rcases hI3 _ hx with h | h
    · simp at h
    · have := hu2.size; omega
  have hR : Row (w5.setCell ⟨w.heap.size, 0, none⟩ (Value.bool true)) 28 4 ao3 1 c3' row513 := hR3.setOther hne _
  have hc : (w5.setCell ⟨w.heap.size, 0, none⟩ (Value.bool true)).heap[w.heap.size]? = some (.cells #[.bool true] 4 (0, 0)) := one_setCell e1
  refine leaves_cons (f := 99) (args := #[.pointer (some ⟨w.heap.size, 0, none⟩)]) (by simp) (by simp [go_sem]) ?_
  refine (caught_idle ⟨w.heap.size, 0, none⟩ _).mono ?_
  rintro e u' w'' ⟨rfl, rfl, rfl⟩
  have hcc := cell_of_one hc
  simp [Leaves, settle, results, Tryz.results32, go_sem, hcc]
  exact ⟨⟨ao3, c3', ⟨rfl, rfl⟩, hR⟩, hup⟩
end Go.Proofs.YtpehfhdacgjmpaaGreat
