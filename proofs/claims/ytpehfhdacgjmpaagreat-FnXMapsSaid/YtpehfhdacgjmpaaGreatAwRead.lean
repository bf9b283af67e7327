/- The two bytes that ncAwake has read. -/
import Derived.Test.YtpehfhdacgjmpaaGreatEnc
import Derived.Laws.MakeOwn
namespace Go.Proofs.YtpehfhdacgjmpaaGreat
open Go Go.RowKit
theorem Row.setOther {w : World} {e : TypeId} {size : Nat} {ao : Option Addr} {n c : Nat} {xs : List Value} (ho : Row w e size ao n c xs) {p : Nat} (hne : p ∉ bk ao) (u : Value) : Row (w.setCell ⟨p, 0, none⟩ u) e size ao n c xs :=
  ownsRow_setCell_other ho (by cases ao <;> simp_all [Value.ownBlock, eq_comm]) _
theorem Hold.stored {w : World} {p : Nat} {T e : TypeId} {size : Nat} {ao : Option Addr} {n c : Nat} {xs : List Value} {u : Value} (hb : w.heap[p]? = some (.cells #[u] T (0, 0))) (ho : Row w e size ao n c xs) (hne : p ∉ bk ao) : Hold (w.setCell ⟨p, 0, none⟩ (.slice ao n c)) p T e size ao n c xs :=
  ⟨one_setCell hb, ownsRow_setCell_other ho (by cases ao <;> simp_all [Value.ownBlock, eq_comm]) _, hne⟩
theorem wpList_make {P : Program} {w : World} {ops : Array Oper} {rest : List Oper} {o : Oper} {a : Act} {Q : Exit → Act → World → Prop} (hgd : o.guard = none) (t e : TypeId) (l c : Operand) (ho : o.op = .makeSlice t l c)
    (z : Value) (size bytes : Nat) (ht : P.underlying t = some (.slice e)) (hinfo : (P.info? e).map (fun i => (i.zero, i.size, i.bytes)) = some (some z, size, bytes)) {kl kc : IntKind} (n : Nat) (hl : a.eval l = .int kl n) (hc : a.eval c = .int kc n)
    (hn : n ≤ 100000) (hb : bytes * n ≤ 281474976710656)
    (h : wpList P ops Q rest (a.put o.dst (.slice (some ⟨w.heap.size, 0, none⟩) n n)) (w.alloc (.cells (madeCells z.cells (n * size)) e))) : wpList P ops Q (o :: rest) a w := by
  refine wpList_plain hgd fun K hK => ?_
  obtain ⟨i, hi, hz, hs, hby⟩ := info_parts hinfo
  subst hs hby
  have hb' : (i.bytes : Int) * (n : Int) ≤ 281474976710656 := by
    have h : ((i.bytes * n : Nat) : Int) ≤ 281474976710656 := by omega
    rwa [Int.natCast_mul] at h
  have hr := run_make (P := P) w t e i z ht hi hz kl kc n n (by omega) (Int.le_refl _) hb' (by omega)
  simp only [Int.toNat_natCast] at hr
  unfold Oper.wp execOp
  simp only [ho, hl, hc, Sem.run_bind, hr, Result.andThen_ok, Sem.run_pure]
  exact hK _ _ h
theorem made1 (v : Value) (n : Nat) : madeCells #[v] n = Array.replicate n v := by
  apply Array.ext
  · simp [size_madeCells]
  · intro i h1 h2
    simp [madeCells, Nat.mod_one]
set_option maxRecDepth 100000 in
set_option maxHeartbeats 400000 in
theorem Ensure0 (bf : Nat) (w : World) (h : w.heap[bf]? = some (.cells #[.slice none 0 0] 210 (0, 0))) :
    Calls Tryz.prog 169 #[.pointer (some ⟨bf, 0, none⟩), .int .i64 2] w fun e w' => e = .returned (.tuple #[]) ∧ w'.heap[bf]? = some (.cells #[.slice (some ⟨w.heap.size, 0, none⟩) 2 2] 210 (0, 0)) ∧ w'.heap[w.heap.size]? = some (.cells #[.int .u8 0, .int .u8 0] 5 (0, 0)) ∧ Upd [bf] w w' ∧ w'.heap.size = w.heap.size + 1 := by
  have c0 := cell_of_one h
  have hlt := lt_of_block h
  have f0 := free_of_one h
  go_enter Tryz.func169, Tryz.ntmps169
  obtain ⟨k1, u1, s1⟩ := alloc_facts w (Obj.cells (madeCells #[.int .u8 0] 2) 5)
  have hb1 := u1.at h (by simp)
  have c1 := cell_of_one hb1
  have f1 := free_of_one hb1
  go_wp2_with ((with_reducible show wpList _ _ _ _ _ _); refine wpList_make rfl 29 5 (.tmp 12) (.tmp 12) rfl (.int .u8 0) 1 1 Tryz.underlying29 Tryz.info5 2 rfl rfl (by decide) (by decide) ?_; simp only [Act.put])
  go_end0
  have v1 := ((Upd.refl [bf] w).setCell (p := ⟨bf, 0, none⟩) (Value.slice (some ⟨w.heap.size, 0, none⟩) 2 2) (by simp))
  refine ⟨rfl, ((Upd.refl [] _).alloc _).at (one_setCell h) (by simp), ?_, v1.alloc _, by simp⟩
  have := heap_alloc_new (w.setCell ⟨bf, 0, none⟩ (Value.slice (some ⟨w.heap.size, 0, none⟩) 2 2)) (Obj.cells (madeCells #[.int .u8 0] 2) 5)
  rw [made1, World.size_setCell] at this
  rw [made1]
  exact this
set_option maxRecDepth 100000 in
set_option maxHeartbeats 400000 in
theorem Uint16v (g : Nat) (w : World) (h : w.rangeAt g 0 [.int .u8 1, .int .u8 2]) (hlt : g < w.heap.size) :
    Calls Tryz.prog 245 #[.agg #[], .slice (some ⟨g, 0, none⟩) 2 2] w fun e w' => e = .returned (.int .u16 513) ∧ Upd [] w w' := by
  go_enter Tryz.func245, Tryz.ntmps245
  have k0 : w.cell? ⟨g, 0, none⟩ = some (.int .u8 1) := h 0 _ rfl
  have k1 : w.cell? ⟨g, 1, none⟩ = some (.int .u8 2) := h 1 _ rfl
  go_wp2
  have u1 := (Upd.refl [] w).alloc (Obj.cells #[] 468)
  have q0 := u1.cell1 k0 (by simp)
  have q1 := u1.cell1 k1 (by simp)
  generalize w.alloc (Obj.cells #[] 468) = W at *
  refine wp_region_split (S := Upd [] W) [(true, 0), (true, 1), (true, 2), (true, 3), (true, 4), (true, 5), (true, 6), (true, 7), (true, 8), (true, 9)] [] [10] (by kernel_rfl) (by kernel_rfl) (fun _ _ d _ _ h => by cases d <;> exact h) ((Upd.refl _ _).drew) ?_
  simp only [readsAt, opersAt, Option.map_some, List.filterMap_cons, List.filterMap_nil, List.getElem?_toArray, List.getElem?_cons_succ, List.getElem?_cons_zero]
  refine ⟨_, Or.inl ⟨by rfl, fun w' hS => by first | (go_simp; done) | (go_simp; with_reducible rfl)⟩, ?_⟩
  simp only [Act.put, List.setIfInBounds_toArray, List.set_cons_zero, List.set_cons_succ]
  refine ⟨_, Or.inl ⟨by rfl, fun w' hS => by first | (go_simp; done) | (go_simp; with_reducible rfl)⟩, ?_⟩
  simp only [Act.put, List.setIfInBounds_toArray, List.set_cons_zero, List.set_cons_succ]
  refine ⟨_, Or.inl ⟨by rfl, fun w' hS => by have e0 := Upd.cell1 hS q0 (by simp); have e1 := Upd.cell1 hS q1 (by simp); first | (go_simp; done) | (go_simp; with_reducible rfl)⟩, ?_⟩
  simp only [Act.put, List.setIfInBounds_toArray, List.set_cons_zero, List.set_cons_succ]
  refine ⟨_, Or.inl ⟨by rfl, fun w' hS => by first | (go_simp; done) | (go_simp; with_reducible rfl)⟩, ?_⟩
  simp only [Act.put, List.setIfInBounds_toArray, List.set_cons_zero, List.set_cons_succ]
  refine ⟨_, Or.inl ⟨by rfl, fun w' hS => by first | (go_simp; done) | (go_simp; with_reducible rfl)⟩, ?_⟩
  simp only [Act.put, List.setIfInBounds_toArray, List.set_cons_zero, List.set_cons_succ]
  refine ⟨_, Or.inl ⟨by rfl, fun w' hS => by first | (go_simp; done) | (go_simp; with_reducible rfl)⟩, ?_⟩
  simp only [Act.put, List.setIfInBounds_toArray, List.set_cons_zero, List.set_cons_succ]
  refine ⟨_, Or.inl ⟨by rfl, fun w' hS => by have e0 := Upd.cell1 hS q0 (by simp); have e1 := Upd.cell1 hS q1 (by simp); first | (go_simp; done) | (go_simp; with_reducible rfl)⟩, ?_⟩
  simp only [Act.put, List.setIfInBounds_toArray, List.set_cons_zero, List.set_cons_succ]
  refine ⟨_, Or.inl ⟨by rfl, fun w' hS => by first | (go_simp; done) | (go_simp; with_reducible rfl)⟩, ?_⟩
  simp only [Act.put, List.setIfInBounds_toArray, List.set_cons_zero, List.set_cons_succ]
  refine ⟨_, Or.inl ⟨by rfl, fun w' hS => by first | (go_simp; done) | (go_simp; with_reducible rfl)⟩, ?_⟩
  simp only [Act.put, List.setIfInBounds_toArray, List.set_cons_zero, List.set_cons_succ]
  refine ⟨_, Or.inl ⟨by rfl, fun w' hS => by first | (go_simp; done) | (go_simp; with_reducible rfl)⟩, ?_⟩
  simp only [Act.put, List.setIfInBounds_toArray, List.set_cons_zero, List.set_cons_succ]
  simp only [readsThen, preThen]
  change wpList _ _ _ [_] _ _
  go_wp2
  go_ret
  exact ⟨rfl, u1.drew⟩

set_option maxRecDepth 100000 in
set_option maxHeartbeats 400000 in
/-- ReadFull into the two zeros of the block g -/
theorem ReadFull2 (rd bf d g : Nat) (w : World) (h1 : w.heap[rd]? = some (.cells #[.slice (some ⟨d, 0, none⟩) 2 2, .pointer (some ⟨bf, 0, none⟩)] 436 (0, 0))) (h2 : w.heap[d]? = some (.cells #[.int .u8 1, .int .u8 2] 5 (0, 0)))
    (h3 : w.heap[g]? = some (.cells #[.int .u8 0, .int .u8 0] 5 (0, 0))) (n1 : rd ≠ g) :
    Calls Tryz.prog 170 #[.pointer (some ⟨rd, 0, none⟩), .slice (some ⟨g, 0, none⟩) 2 2] w fun e w' => e = .returned .nilIface ∧ w'.rangeAt g 0 [.int .u8 1, .int .u8 2] ∧ Upd [rd, g] w w' ∧ w'.cell? ⟨rd, 1, none⟩ = some (.pointer (some ⟨bf, 0, none⟩)) := by
  have r0 : w.cell? ⟨rd, 0, none⟩ = some (.slice (some ⟨d, 0, none⟩) 2 2) := by simp [World.cell?, h1]
  have r1 : w.cell? ⟨rd, 1, none⟩ = some (.pointer (some ⟨bf, 0, none⟩)) := by simp [World.cell?, h1]
  have fr : w.frozen? ⟨rd, 0, none⟩ = false := by simp [World.frozen?, h1]
  go_enter Tryz.func170, Tryz.ntmps170
  have hrow : Row w 5 1 (some ⟨g, 0, none⟩) 2 2 [.int .u8 0, .int .u8 0] := Row.of _ h3 (by omega) (by decide) rfl rfl
  have hsrc : Src Tryz.prog 1 29 (.slice (some ⟨d, 0, none⟩) 2 2) 2 [.int .u8 1, .int .u8 2] w := Src.ofRange Tryz.underlying29 rfl (rangeAt_blk h2) (by simp [Value.oneCell'])
  go_wp2_with ((with_reducible show wpList _ _ _ _ _ _); refine wpList_copyRow rfl (.tmp 16) (.tmp 20) 29 29 rfl 5 Tryz.underlying29 (by kernel_rfl) (off := 0) rfl hsrc rfl hrow (Nat.le_refl _) (by omega) ?_; intro w1 hr1 hu1; simp only [Act.put]; have q0 := hu1.cell1 r0 (by simpa using n1); have q1 := hu1.cell1 r1 (by simpa using n1); have fq : w1.frozen? ⟨rd, 0, none⟩ = false := by simp [World.frozen?, hu1.at h1 (by simpa using n1)])
  go_ret
  have hg : w1.rangeAt g 0 [.int .u8 1, .int .u8 2] := hr1.view 0 _ (fun j v hj => by rw [Nat.zero_add]; exact hj)
  have v1 := (Upd.refl [rd] w1).setCell (p := ⟨rd, 0, none⟩) (Value.slice (some ⟨d, 0, none⟩) 0 0) (by simp)
  exact ⟨rfl, v1.range hg (Nat.lt_of_lt_of_le (lt_of_block h3) hu1.size) (by simpa [eq_comm] using n1), (hu1.mono (by simp)).trans v1 (by simp), (World.cell?_setCell_other _ ⟨rd, 0, none⟩ ⟨rd, 1, none⟩ _ (by simp)).trans q1⟩

set_option maxRecDepth 100000 in
set_option maxHeartbeats 400000 in
theorem readFull2 (rd bf d : Nat) (w : World) (h1 : w.heap[rd]? = some (.cells #[.slice (some ⟨d, 0, none⟩) 2 2, .pointer (some ⟨bf, 0, none⟩)] 436 (0, 0))) (h2 : w.heap[d]? = some (.cells #[.int .u8 1, .int .u8 2] 5 (0, 0)))
    (h3 : w.heap[bf]? = some (.cells #[.slice none 0 0] 210 (0, 0))) (n1 : rd ≠ bf) (n2 : d ≠ bf) :
    Calls Tryz.prog 167 #[.pointer (some ⟨rd, 0, none⟩), .int .i64 2] w fun e w' => e = .returned .nilIface ∧ w'.rangeAt w.heap.size 0 [.int .u8 1, .int .u8 2] ∧ w'.heap[bf]? = some (.cells #[.slice (some ⟨w.heap.size, 0, none⟩) 2 2] 210 (0, 0)) ∧ Upd [rd, bf] w w' ∧ w.heap.size < w'.heap.size ∧ w'.cell? ⟨rd, 1, none⟩ = some (.pointer (some ⟨bf, 0, none⟩)) := by
  have r0 : w.cell? ⟨rd, 0, none⟩ = some (.slice (some ⟨d, 0, none⟩) 2 2) := by simp [World.cell?, h1]
  have r1 : w.cell? ⟨rd, 1, none⟩ = some (.pointer (some ⟨bf, 0, none⟩)) := by simp [World.cell?, h1]
  have lr := lt_of_block h1
  have ld := lt_of_block h2
  have lb := lt_of_block h3
  go_enter Tryz.func167, Tryz.ntmps167
  go_wp2_with (first
    | (go_at_call 169; (refine (Ensure0 bf _ h3).mono ?_; rintro e w1 ⟨rfl, hb1, hg1, hu1, hs1⟩; have hr1 := hu1.at h1 (by simpa using n1); have hd1 := hu1.at h2 (by simpa using n2); have q0 : w1.cell? ⟨rd, 0, none⟩ = some (.slice (some ⟨d, 0, none⟩) 2 2) := (by simp [World.cell?, hr1]); have q1 : w1.cell? ⟨rd, 1, none⟩ = some (.pointer (some ⟨bf, 0, none⟩)) := (by simp [World.cell?, hr1]); have q2 := cell_of_one hb1))
    | (go_at_call 170; (refine (ReadFull2 rd bf d _ _ hr1 hd1 hg1 (by omega)).mono ?_); rintro e w2 ⟨rfl, hg2, hu2, hp2⟩))
  go_ret
  refine ⟨rfl, hg2, hu2.at hb1 (by simp; omega), (hu1.mono (by simp)).trans hu2 (by simp), by have := hu2.size; omega, hp2⟩
set_option maxRecDepth 100000 in
set_option maxHeartbeats 400000 in
theorem ReadRaw2 (rd bf d : Nat) (w : World) (h1 : w.heap[rd]? = some (.cells #[.slice (some ⟨d, 0, none⟩) 2 2, .pointer (some ⟨bf, 0, none⟩)] 436 (0, 0))) (h2 : w.heap[d]? = some (.cells #[.int .u8 1, .int .u8 2] 5 (0, 0)))
    (h3 : w.heap[bf]? = some (.cells #[.slice none 0 0] 210 (0, 0))) (n1 : rd ≠ bf) (n2 : d ≠ bf) :
    Calls Tryz.prog 162 #[.pointer (some ⟨rd, 0, none⟩), .int .i64 2] w fun e w' => e = .returned (.tuple #[.slice (some ⟨w.heap.size, 0, none⟩) 2 2, .nilIface]) ∧ w'.rangeAt w.heap.size 0 [.int .u8 1, .int .u8 2] ∧ Upd [rd, bf] w w' ∧ w.heap.size < w'.heap.size := by
  go_enter Tryz.func162, Tryz.ntmps162
  go_wp2_with (first
    | (go_at_call 167; (refine (readFull2 rd bf d _ h1 h2 h3 n1 n2).mono ?_); rintro e w1 ⟨rfl, hg1, hb1, hu1, hs1, hp1⟩; have q2 := cell_of_one hb1))
  refine bodyPost_ret (results_tmp2 Tryz.results162 _ _ _) rfl ⟨rfl, hg1, hu1, hs1⟩

set_option maxRecDepth 100000 in
set_option maxHeartbeats 400000 in
theorem DecodeColumn0 (p rd : Nat) (w : World) : Calls Tryz.prog 314 #[.pointer (some ⟨p, 0, none⟩), .pointer (some ⟨rd, 0, none⟩), .int .i64 0] w fun e w' => e = .returned .nilIface ∧ w' = w := by
  go_enter Tryz.func314, Tryz.ntmps314
  go_wp2
  go_ret
  exact ⟨rfl, rfl⟩
set_option maxRecDepth 100000 in
set_option maxHeartbeats 1000000 in
theorem DecodeColumn1 (p rd bf d : Nat) (w : World) (h1 : w.heap[rd]? = some (.cells #[.slice (some ⟨d, 0, none⟩) 2 2, .pointer (some ⟨bf, 0, none⟩)] 436 (0, 0))) (h2 : w.heap[d]? = some (.cells #[.int .u8 1, .int .u8 2] 5 (0, 0)))
    (h3 : w.heap[bf]? = some (.cells #[.slice none 0 0] 210 (0, 0))) (n1 : rd ≠ bf) (n2 : d ≠ bf) (h4 : Hold w p 187 128 1 none 0 0 []) (n3 : p ≠ rd ∧ p ≠ bf) :
    Calls Tryz.prog 314 #[.pointer (some ⟨p, 0, none⟩), .pointer (some ⟨rd, 0, none⟩), .int .i64 1] w fun e w' => e = .returned .nilIface ∧ (∃ ao c, Hold w' p 187 128 1 ao 1 c [.int .u16 513] ∧ In [] w.heap.size ao) ∧ Upd [p, rd, bf] w w' := by
  go_enter Tryz.func314, Tryz.ntmps314
  go_wp2_with (first
    | (go_at_call 162; (refine (ReadRaw2 rd bf d _ h1 h2 h3 n1 n2).mono ?_); rintro e w1 ⟨rfl, hg1, hu1, hs1⟩; have hH1 := h4.kept hu1 (by simpa using n3) (by simp); have q0 := hH1.cell; have g0 := hg1 0 _ rfl; have g1 := hg1 1 _ rfl))
  clear q0 g1
  go_loopw [9, 10] (fun v i wr => (i = .int .i64 0 ∧ v = .slice none 0 0 ∧ Upd [] w1 wr) ∨ ∃ (ao : Option Addr) (c : Nat), i = .int .i64 2 ∧ v = .slice ao 1 c ∧ Row wr 128 1 ao 1 c [.int .u16 513] ∧ Upd [] w1 wr ∧ In [] w1.heap.size ao)
    (fun _ i _ => 2 - (intOf i).toNat)
  case atStart => exact .inl ⟨rfl, rfl, Upd.refl _ _⟩
  case round =>
    rcases hrel with ⟨rfl, rfl, hU⟩ | ⟨ao, c, rfl, rfl, hR, hU, hI⟩
    · have hg2 := hU.range hg1 hs1 (by simp)
      have hs2 := Nat.lt_of_lt_of_le hs1 hU.size
      go_wp2
      refine wp_region_split (S := Upd [] wr) [(false, 0), (true, 1), (true, 2), (true, 3), (true, 4), (true, 5), (true, 6)] [] [7, 8, 9, 10] (by kernel_rfl) (by kernel_rfl) (fun _ _ d _ _ h => by cases d <;> exact h) ((Upd.refl _ _).drew) ?_
      simp only [readsAt, opersAt, Option.map_some, List.filterMap_cons, List.filterMap_nil, List.getElem?_toArray, List.getElem?_cons_succ, List.getElem?_cons_zero]
      refine ⟨_, Or.inl ⟨by rfl, fun w' hS => by first | (go_simp; done) | (go_simp; with_reducible rfl)⟩, ?_⟩
      simp only [Act.put, List.setIfInBounds_toArray, List.set_cons_zero, List.set_cons_succ]
      refine ⟨_, Or.inl ⟨by rfl, fun w' hS => by skip; first | (go_simp; done) | (go_simp; with_reducible rfl)⟩, ?_⟩
      simp only [Act.put, List.setIfInBounds_toArray, List.set_cons_zero, List.set_cons_succ]
      refine ⟨_, Or.inl ⟨by rfl, fun w' hS => by first | (go_simp; done) | (go_simp; with_reducible rfl)⟩, ?_⟩
      simp only [Act.put, List.setIfInBounds_toArray, List.set_cons_zero, List.set_cons_succ]
      refine ⟨_, Or.inl ⟨by rfl, fun w' hS => by first | (go_simp; done) | (go_simp; with_reducible rfl)⟩, ?_⟩
      simp only [Act.put, List.setIfInBounds_toArray, List.set_cons_zero, List.set_cons_succ]
      refine ⟨_, Or.inl ⟨by rfl, fun w' hS => by first | (go_simp; done) | (go_simp; with_reducible rfl)⟩, ?_⟩
      simp only [Act.put, List.setIfInBounds_toArray, List.set_cons_zero, List.set_cons_succ]
      refine ⟨_, Or.inl ⟨by rfl, fun w' hS => by first | (go_simp; done) | (go_simp; with_reducible rfl)⟩, ?_⟩
      simp only [Act.put, List.setIfInBounds_toArray, List.set_cons_zero, List.set_cons_succ]
      refine ⟨_, yields_slice rfl 29 5 1 _ _ _ rfl Tryz.underlying29 (by kernel_rfl) w.heap.size 0 2 2 rfl _ _ 0 2 rfl rfl rfl rfl (by decide) (by decide) (by decide) 0 2 2 rfl rfl rfl, ?_⟩
      simp only [Act.put, List.setIfInBounds_toArray, List.set_cons_zero, List.set_cons_succ]
      simp only [readsThen, preThen]
      change wpList _ _ _ [_, _, _, _] _ _
      go_wp2_with (first
        | (go_at_call 245; (refine (Uint16v w.heap.size _ ((Upd.refl [] wr).drew.range hg2 hs2 (by simp)) hs2).mono ?_); rintro e w2 ⟨rfl, hu2⟩)
        | (at_builtin; refine wpList_app1 _ rfl _ _ 187 rfl 128 (.int .u16 0) 1 2 Tryz.underlying187 Tryz.info128 rfl (by decide) Row.nil rfl [.int .u16 513] rfl rfl rfl (by simp [Value.oneCell']) (by decide) (by omega) ?_; intro ao1 c1 w3 hown1 hupd1 hin1))
      have hU2 : Upd [] w1 w2 := hU.trans hu2.ofDrew (fun _ h => .inl h)
      have hU3 : Upd [] w1 w3 := hU2.trans hupd1 (by simp)
      have hI3 : In [] w1.heap.size ao1 := hin1.le hU2.size
      go_roundw
      case rel => exact .inr ⟨ao1, c1, rfl, rfl, hown1, hU3, hI3⟩
      case measure => simp [intOf]
    · have hH2 := hH1.kept hU (by simp) (by simp)
      have q0 := hH2.cell
      have f0 := hH2.free
      go_wp2
      go_ret
      have hI1 : In [] w.heap.size ao := hI.le hu1.size
      have hpl := h4.lt
      have hne : p ∉ bk ao := fun hp => by
        rcases hI1 p hp with h | h
        · simp at h
        · omega
      refine ⟨rfl, ⟨ao, c, Hold.stored hH2.blk hR hne, hI1⟩, ?_⟩
      exact ((hu1.mono (by simp +contextual)).trans hU (fun _ h => by simp at h)).setCell _ (by simp)
end Go.Proofs.YtpehfhdacgjmpaaGreat
