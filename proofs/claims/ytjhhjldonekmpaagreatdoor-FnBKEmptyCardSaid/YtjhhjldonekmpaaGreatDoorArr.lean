/- Many cells at once: a copy into a row, an array that is stored whole into a variable. -/
import Derived.Test.YtjhhjldonekmpaaGreatDoorCols
import Derived.Laws.CopyOwn
namespace Go.Proofs.YtjhhjldonekmpaaGreatDoor
open Go Go.RowKit
theorem Row.block {w : World} {e : TypeId} {size g n c : Nat} {xs : List Value} (h : Row w e size (some ⟨g, 0, none⟩) n c xs) : ∃ cur, w.heap[g]? = some (.cells cur e (0, 0)) ∧ n ≤ c ∧ c ≤ maxLen ∧ cur.size = c * size ∧ cur.toList.take (n * size) = xs := by
  rcases h.2 with ⟨h1, h0⟩ | ⟨g', cap, cur, hv, _, hg, h1, h2, h3, h4⟩
  · simp at h1
  · simp only [Value.slice.injEq, Option.some.injEq, Addr.mk.injEq, and_true, true_and] at hv
    obtain ⟨rfl, rfl⟩ := hv
    exact ⟨cur, hg, h1, h2, h3, h4⟩
theorem Row.of {w : World} {e : TypeId} {size g n c : Nat} {xs : List Value} (cur : Array Value) (hg : w.heap[g]? = some (.cells cur e (0, 0))) (h1 : n ≤ c) (h2 : c ≤ maxLen) (h3 : cur.size = c * size) (h4 : cur.toList.take (n * size) = xs) : Row w e size (some ⟨g, 0, none⟩) n c xs :=
  ⟨by rw [← h4, List.length_take, Array.length_toList, h3]; exact Nat.min_eq_left (Nat.mul_le_mul_right _ h1), .inr ⟨g, c, cur, rfl, Nat.zero_le _, hg, h1, h2, h3, h4⟩⟩
theorem putAt_take {xs : List Value} {o : Nat} {bs : List Value} {n : Nat} (h : o + bs.length ≤ n) (hx : n ≤ xs.length) : (putAt xs o bs).take n = putAt (xs.take n) o bs := by
  unfold putAt
  rw [List.take_append, List.take_of_length_le (by simp only [List.length_append, List.length_take]; omega)]
  rw [List.take_take, Nat.min_eq_left (by omega), List.drop_take]
  congr 2
  simp only [List.length_append, List.length_take]
  omega
theorem Upd.setRow (w : World) (g : Nat) (cs : Array Value) : Upd [g] w (w.setRow g cs) :=
  ⟨rfl, rfl, rfl, by simp [World.setRow], fun k _ hk => setRow_other w g k cs (by simpa using hk)⟩
/-- news stored over a row from off on -/
theorem Row.put {w : World} {e : TypeId} {size g n c : Nat} {xs : List Value} (h : Row w e size (some ⟨g, 0, none⟩) n c xs) (off : Nat) (news : List Value) (hoff : off + news.length ≤ n * size) (h1 : ∀ u ∈ news, u.oneCell' = true) (P : Program) :
    ∃ w', (storeCells ⟨g, off, none⟩ news).run P w = .ok () w' ∧ Row w' e size (some ⟨g, 0, none⟩) n c (putAt xs off news) ∧ Upd [g] w w' := by
  obtain ⟨cur, hg, k1, k2, k3, k4⟩ := h.block
  have hle : n * size ≤ cur.toList.length := by rw [Array.length_toList, k3]; exact Nat.mul_le_mul_right _ k1
  have hst := run_storeCells_at P g off e news 0 cur w hg (by rw [← Array.length_toList]; omega) h1
  refine ⟨_, hst, Row.of _ (setRow_heap w g cur _ e _ hg) k1 k2 ?_ ?_, Upd.setRow w g _⟩
  · simp only [Nat.add_zero, List.size_toArray]
    have := putAt_len (xs := cur.toList) (o := off) (bs := news) (by omega)
    unfold putAt at this
    rw [this, Array.length_toList, k3]
  · simp only [Nat.add_zero]
    show (putAt cur.toList off news).take (n * size) = _
    rw [putAt_take hoff hle, k4]

section
variable {P : Program} {w : World} {ops : Array Oper} {rest : List Oper} {o : Oper} {a : Act} {Q : Exit → Act → World → Prop}
/-- copy(dst, src), src no longer than dst, dst within a row of the call's own -/
theorem wpList_copyRow (hgd : o.guard = none) (d s : Operand) (dT sT : TypeId) (ho : o.op = .call { callee := .builtin .copy, args := #[d, s], argTypes := #[dT, sT] })
    (e : TypeId) (hu : P.underlying dT = some (.slice e)) (hsz : (P.info? e).map (·.size) = some 1) {g off dLen dCap : Nat} (hd : a.eval d = .slice (some ⟨g, off, none⟩) dLen dCap)
    {vx : Value} {m : Nat} {news : List Value} (hsrc : Src P 1 sT vx m news w) (hs : a.eval s = vx) {e' : TypeId} {n c : Nat} {xs : List Value} (hrow : Row w e' 1 (some ⟨g, 0, none⟩) n c xs)
    (hm : m ≤ dLen) (hoff : off + m ≤ n)
    (h : ∀ w', Row w' e' 1 (some ⟨g, 0, none⟩) n c (putAt xs off news) → Upd [g] w w' → wpList P ops Q rest (a.put o.dst (goInt m)) w') : wpList P ops Q (o :: rest) a w := by
  refine wpList_plain hgd fun K hK => ?_
  have hl : news.length = m := by rw [hsrc.newsLen, Nat.mul_one]
  obtain ⟨w', hst, hr, hup⟩ := hrow.put off news (by omega) hsrc.one P
  obtain ⟨i, hi1, hi2⟩ := Option.map_eq_some_iff.1 hsz
  have hc := hsrc.cells
  have hmin : Nat.min m dLen = m := Nat.min_eq_left hm
  unfold Oper.wp execOp
  simp only [ho, resolve, invoke, builtin, Sem.run_bind, Sem.run_pure, Result.andThen_ok, List.map_toArray, List.map_cons, List.map_nil, hd, hs]
  have hrun : (Builtin.copy_ #[dT, sT] o.type #[.slice (some ⟨g, off, none⟩) dLen dCap, vx]).run P w = .ok (goInt m) w' := by
    simp [Builtin.copy_, run_underlying hu, hsrc.len, hmin, sizeOf, typeInfo, hi1, hi2, hc, hst]
  rw [hrun]
  exact hK _ _ (h w' hr hup)

/-- an array stored whole into a variable at the head of a block -/
theorem wpList_store_blk (hgd : o.guard = none) (ty : TypeId) (x y : Operand) (ho : o.op = .store ty x y) {b : Nat} (hx : a.eval x = .pointer (some ⟨b, 0, none⟩)) {cur : Array Value} {E : TypeId} (hb : w.heap[b]? = some (.cells cur E (0, 0)))
    {cs : List Value} (hy : a.eval y = .agg cs.toArray) (hlen : cs.length = cur.size) (hsz : (P.info? ty).map (·.size) = some cs.length) (h1 : ∀ u ∈ cs, u.oneCell' = true)
    (h : ∀ w', w'.heap[b]? = some (.cells cs.toArray E (0, 0)) → Upd [b] w w' → wpList P ops Q rest (a.put o.dst undef) w') : wpList P ops Q (o :: rest) a w := by
  refine wpList_plain hgd fun K hK => ?_
  obtain ⟨i, hi1, hi2⟩ := Option.map_eq_some_iff.1 hsz
  have hst := run_storeCells_at P b 0 E cs 0 cur w hb (by omega) h1
  simp only [Nat.add_zero, Nat.zero_add, List.take_zero, List.nil_append] at hst
  rw [List.drop_of_length_le (by rw [Array.length_toList]; omega), List.append_nil] at hst
  unfold Oper.wp execOp
  have hrun : (storeVar ty ⟨b, 0, none⟩ (.agg cs.toArray)).run P w = .ok () (w.setRow b cs.toArray) := by
    simp [storeVar, sizeOf, typeInfo, hi1, hi2, Value.cells, hst]
  simp only [ho, hx, hy, Instr.storeAt, Instr.sureAddr, Sem.run_bind, Sem.run_pure, Result.andThen_ok, hrun]
  exact hK _ _ (h _ (setRow_heap w b cur _ E _ hb) (Upd.setRow w b _))
end
theorem results_cell1 {fn : Func} {p : Tmp} {ty : TypeId} (h : fn.results = #[.cell p ty]) {tmps : Array Value} {P : Program} {w : World} {b : Nat} (hp : tmps.getD p undef = .pointer (some ⟨b, 0, none⟩)) {v : Value} (hl : (loadVar ty ⟨b, 0, none⟩).run P w = .ok v w) :
    (results fn tmps).run P w = .ok v w := by
  have hp' : tmps[p]?.getD undef = .pointer (some ⟨b, 0, none⟩) := by rw [← hp]; simp
  simp only [results, h]
  simp [hp', asAddr, hl]
/-- what is known behind a new block -/
theorem alloc_facts (w : World) (o : Obj) : (w.alloc o).heap[w.heap.size]? = some o ∧ Upd [] w (w.alloc o) ∧ (w.alloc o).heap.size = w.heap.size + 1 := ⟨heap_alloc_new w o, (Upd.refl [] w).alloc o, by simp⟩
/-- the cells of a block, as a range -/
theorem rangeAt_blk {w : World} {b : Nat} {cs : List Value} {E : TypeId} {fr : Nat × Nat} (h : w.heap[b]? = some (.cells cs.toArray E fr)) : w.rangeAt b 0 cs := fun j v hv => by
  simp [World.cell?, h, hv]
theorem Src.ofRange {P : Program} {w : World} {tx e' : TypeId} (hk : P.underlying tx = some (.slice e')) {size b o n c : Nat} {news : List Value} (hl : news.length = n * size) (hr : w.rangeAt b o news) (h1 : ∀ u ∈ news, u.oneCell' = true) :
    Src P size tx (.slice (some ⟨b, o, none⟩) n c) n news w := Src.ofSlice w hk ⟨b, o, none⟩ n c news hl (fun j u hj => by rw [Addr.add_lit]; exact hr j u hj) h1
end Go.Proofs.YtjhhjldonekmpaaGreatDoor
