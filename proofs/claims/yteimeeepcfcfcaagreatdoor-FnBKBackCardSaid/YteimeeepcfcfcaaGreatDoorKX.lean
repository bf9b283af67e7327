/- Rows that are compared: slices.Equal, slices.EqualFunc, bkSame. -/
import Derived.Test.YteimeeepcfcfcaaGreatDoorKU
import Derived.ChangeKeysEq
import Derived.Laws.StructEq
namespace Go.Proofs.YteimeeepcfcfcaaGreatDoor
set_option maxRecDepth 100000
set_option maxHeartbeats 2000000
set_option linter.unusedVariables false
set_option linter.unusedSimpArgs false
open Go Go.RowKit
theorem eqRow (a b c d : Int) (w : World) : (Op.equalIn 10000 71 (.agg #[.int .u64 a, .int .u64 b, .int .u64 c, .int .u64 d]) (.agg #[.int .u64 a, .int .u64 b, .int .u64 c, .int .u64 d])).run Tryz.prog w = .ok true w := by
  have c1 : Tryz.prog.cellsOf 69 = 1 := by kernel_rfl
  have p0 : (part 69 #[.int .u64 a, .int .u64 b, .int .u64 c, .int .u64 d] 0).run Tryz.prog w = .ok (.int .u64 a) w := by kernel_rfl
  have p1 : (part 69 #[.int .u64 a, .int .u64 b, .int .u64 c, .int .u64 d] 1).run Tryz.prog w = .ok (.int .u64 b) w := by kernel_rfl
  have p2 : (part 69 #[.int .u64 a, .int .u64 b, .int .u64 c, .int .u64 d] 2).run Tryz.prog w = .ok (.int .u64 c) w := by kernel_rfl
  have p3 : (part 69 #[.int .u64 a, .int .u64 b, .int .u64 c, .int .u64 d] 3).run Tryz.prog w = .ok (.int .u64 d) w := by kernel_rfl
  have q : ∀ x : Int, (Op.equalIn 9999 69 (.int .u64 x) (.int .u64 x)).run Tryz.prog w = .ok true w := fun x => by
    rw [show (9999 : Nat) = 9998 + 1 from rfl, run_equalIn_int w 9998 69 .u64 .u64 x x Tryz.underlying69]
    simp
  obtain ⟨i, hi, _⟩ := Option.map_eq_some_iff.1 Tryz.info69
  rw [show (10000 : Nat) = 9999 + 1 from rfl, run_equalIn_array w 9999 _ _ Tryz.underlying71 hi, show List.range 4 = [0, 1, 2, 3] from rfl, c1]
  simp only [Op.eqItems, Nat.mul_one, Sem.run_bind, p0, p1, p2, p3, q, Result.andThen_ok, Bool.not_true, Bool.false_eq_true, if_false, Sem.run_pure]
theorem eqRowB (r : R4) (w : World) : (binOp .neq 71 (.agg r.cells.toArray) (.agg r.cells.toArray)).run Tryz.prog w = .ok (.bool false) w := by
  rw [run_neq_struct]
  have h : (Op.equalIn 10000 71 (.agg r.cells.toArray) (.agg r.cells.toArray)).run Tryz.prog w = .ok true w := eqRow r.a r.b r.c r.d w
  rw [h]
  rfl
theorem eqRowG (x y : Operand) (r : R4) (w : World) : (eqGuard .neq 71 x y (.agg r.cells.toArray) (.agg r.cells.toArray)).run Tryz.prog w = .ok () w := run_eqGuard_agg w .neq 71 x y _ _ (by kernel_rfl)
theorem eqRow4 (r : R4) (w : World) : (Op.equalIn 10000 71 (.agg r.cells.toArray) (.agg r.cells.toArray)).run Tryz.prog w = .ok true w := eqRow r.a r.b r.c r.d w
theorem yields_neqRow {ops : Array Oper} {S : World → Prop} {o : Oper} {a : Act} (hg : o.guard = none) (x y : Operand) (ty : TypeId) (ho : o.op = .binOp .neq 71 x y ty) (r : R4) (hx : a.eval x = .agg r.cells.toArray) (hy : a.eval y = .agg r.cells.toArray) :
    YieldsIf Tryz.prog ops S o (.bool false) a := by
  refine .inl ⟨by simp [Region.wanted, hg], fun w _ => ?_⟩
  have h1 := eqRowG x y r w
  have h2 := eqRowB r w
  generalize r.cells.toArray = X at *
  unfold execOp
  simp only [ho, hx, hy, Sem.run_bind, h1, h2, Result.andThen_ok, Sem.run_pure]
theorem piece_at {α : Type} (f : α → List Value) (m : Nat) (hf : ∀ a, (f a).length = m) {w : World} {b o : Nat} {l : List α} (h : w.rangeAt b o (l.flatMap f)) (k : Nat) (hk : k < l.length) : w.rangeAt b (o + k * m) (f l[k]) := fun j v hj =>
  (cells_at f m hf h k hk j (by have := (List.getElem?_eq_some_iff.1 hj).1; rw [hf] at this; exact this)).trans hj
theorem rowsEqual (a1 a2 : Option Addr) (n c1 c2 : Nat) (rs : List R4) (hl : rs.length = n) (hn : n ≤ 1000) (w : World) (h1 : View w 4 a1 n (rs.flatMap R4.cells)) (h2 : View w 4 a2 n (rs.flatMap R4.cells)) :
    Calls Tryz.prog 25 #[.slice a1 n c1, .slice a2 n c2] w fun e w' => e = .returned (.bool true) ∧ Upd [] w w' := by
  have hne : ((n : Int) == n) = true := by simp
  go_enter Tryz.func25, Tryz.ntmps25
  go_wp2
  go_loopw [13] (fun i wr => ∃ k : Nat, k ≤ n ∧ i = .int .i64 k ∧ Upd [] w wr)
    (fun i _ => n - (intOf i).toNat)
  case atStart => exact ⟨0, by omega, rfl, Upd.refl _ _⟩
  case round =>
    obtain ⟨k, hk, rfl, hU⟩ := hrel
    by_cases hlt : k < n
    · have hk0 : ((k : Int) < n) := by omega
      obtain ⟨b1, o1, rfl, r1, l1⟩ := h1.at_ (by omega)
      obtain ⟨b2, o2, rfl, r2, l2⟩ := h2.at_ (by omega)
      obtain ⟨r, hx⟩ : ∃ r, r = rs[k]'(by omega) := ⟨_, rfl⟩
      have p1 := piece_at R4.cells 4 R4.cells_len r1 k (by omega)
      have p2 := piece_at R4.cells 4 R4.cells_len r2 k (by omega)
      rw [← hx] at p1 p2
      have r1' := hU.range p1 l1 (by simp)
      have r2' := hU.range p2 l2 (by simp)
      have l1' := Nat.lt_of_lt_of_le l1 hU.size
      have l2' := Nat.lt_of_lt_of_le l2 hU.size
      clear hx p1 p2 r1 r2
      go_wp2
      refine wp_region_split (S := Upd [] wr) [(true, 0), (true, 1), (true, 2), (true, 3), (true, 4), (true, 5), (true, 6), (true, 7), (true, 8)] [] [] (by kernel_rfl) (by kernel_rfl) (fun _ _ d _ _ h => by cases d <;> exact h) ((Upd.refl _ _).drew) ?_
      simp only [readsAt, opersAt, Option.map_some, List.filterMap_cons, List.filterMap_nil, List.getElem?_toArray, List.getElem?_cons_succ, List.getElem?_cons_zero]
      iterate 3 (refine ⟨_, Or.inl ⟨by rfl, fun w' hS => by first | (go_simp; done) | (go_simp; with_reducible rfl)⟩, ?_⟩; simp only [Act.put, List.setIfInBounds_toArray, List.set_cons_zero, List.set_cons_succ])
      refine ⟨_, yieldsIf_load_mid (by rfl) _ _ rfl b1 (o1 + k * 4) rfl r.cells _ (fun w' hS => Upd.range hS r1' l1' (by simp)) Tryz.underlying71 rfl (by kernel_rfl), ?_⟩
      simp only [Act.put, List.setIfInBounds_toArray, List.set_cons_zero, List.set_cons_succ]
      iterate 3 (refine ⟨_, Or.inl ⟨by rfl, fun w' hS => by first | (go_simp; done) | (go_simp; with_reducible rfl)⟩, ?_⟩; simp only [Act.put, List.setIfInBounds_toArray, List.set_cons_zero, List.set_cons_succ])
      refine ⟨_, yieldsIf_load_mid (by rfl) _ _ rfl b2 (o2 + k * 4) rfl r.cells _ (fun w' hS => Upd.range hS r2' l2' (by simp)) Tryz.underlying71 rfl (by kernel_rfl), ?_⟩
      simp only [Act.put, List.setIfInBounds_toArray, List.set_cons_zero, List.set_cons_succ]
      refine ⟨_, yields_neqRow rfl (.tmp 19) (.tmp 23) _ rfl r rfl rfl, ?_⟩
      simp only [Act.put, List.setIfInBounds_toArray, List.set_cons_zero, List.set_cons_succ]
      simp only [readsThen, preThen]
      change wpList _ _ _ [] _ _
      go_wp2
      have hd : Upd [] w wr.drew := hU.drew
      exact ⟨⟨k + 1, by omega, by go_num, hd⟩, by simp [intOf]; omega⟩
    · have hk0 : ¬ ((k : Int) < n) := by omega
      obtain rfl : k = n := by omega
      go_wp2
      go_ret
      exact ⟨rfl, hU⟩
theorem bkSame1 (a1 a2 : Option Addr) (n c1 c2 : Nat) (rs : List R4) (hl : rs.length = n) (hn : n ≤ 1000) (w : World) (h1 : View w 4 a1 n (rs.flatMap R4.cells)) (h2 : View w 4 a2 n (rs.flatMap R4.cells)) :
    Calls Tryz.prog 24 #[.slice a1 n c1, .slice a2 n c2] w fun e w' => e = .returned (.bool true) ∧ Upd [] w w' := by
  go_enter Tryz.func24, Tryz.ntmps24
  go_wp2_with (go_at_call 25; (refine (rowsEqual a1 a2 n c1 c2 rs hl hn _ h1 h2).mono ?_); rintro e w3 ⟨rfl, hu3⟩)
  go_ret
  exact ⟨rfl, hu3⟩
/-- the rows of some columns: a slice of slices of rows -/
structure RowsV (w : World) (ao : Option Addr) (n : Nat) (vs : List Value) (rss : List (List R4)) : Prop where
  view : View w 1 ao n vs
  len : vs.length = n
  len' : rss.length = n
  row : ∀ (k : Nat) (hk : k < n), ∃ a c, vs[k]? = some (.slice a (rss[k]'(by omega)).length c) ∧ View w 4 a (rss[k]'(by omega)).length ((rss[k]'(by omega)).flatMap R4.cells)
theorem RowsV.upd {w w' : World} {ao : Option Addr} {n : Nat} {vs : List Value} {rss : List (List R4)} (h : RowsV w ao n vs rss) (hu : Upd [] w w') : RowsV w' ao n vs rss :=
  ⟨h.view.upd hu (by simp), h.len, h.len', fun k hk => by obtain ⟨a, c, h1, h2⟩ := h.row k hk; exact ⟨a, c, h1, h2.upd hu (by simp)⟩⟩
theorem bkSame (a1 a2 : Option Addr) (n c1 c2 : Nat) (v1 v2 : List Value) (rss : List (List R4)) (hn : n ≤ 1000) (hrs : ∀ r ∈ rss, r.length ≤ 1000) (w : World) (h1 : RowsV w a1 n v1 rss) (h2 : RowsV w a2 n v2 rss) :
    Calls Tryz.prog 13 #[.slice a1 n c1, .slice a2 n c2] w fun e w' => e = .returned (.bool true) ∧ Upd [] w w' := by
  have hf : Calls Tryz.prog 23 #[.slice a1 n c1, .slice a2 n c2, .func (Fn.func 24) #[] #[]] w fun e w' => e = .returned (.bool true) ∧ Upd [] w w' := by
    have hne : ((n : Int) == n) = true := by simp
    go_enter Tryz.func23, Tryz.ntmps23
    go_wp2
    go_loopw [17] (fun i wr => ∃ k : Nat, k ≤ n ∧ i = .int .i64 k ∧ Upd [] w wr)
      (fun i _ => n - (intOf i).toNat)
    case atStart => exact ⟨0, by omega, rfl, Upd.refl _ _⟩
    case round =>
      obtain ⟨k, hk, rfl, hU⟩ := hrel
      by_cases hlt : k < n
      · have hk0 : ((k : Int) < n) := by omega
        obtain ⟨b1, o1, rfl, r1, l1⟩ := (h1.view.upd hU (by simp)).at_ (by omega)
        obtain ⟨b2, o2, rfl, r2, l2⟩ := (h2.view.upd hU (by simp)).at_ (by omega)
        obtain ⟨x1, y1, e1, w1⟩ := (h1.upd hU).row k hlt
        obtain ⟨x2, y2, e2, w2⟩ := (h2.upd hU).row k hlt
        have g1 : wr.cell? ⟨b1, o1 + k, none⟩ = _ := r1 k _ e1
        have g2 : wr.cell? ⟨b2, o2 + k, none⟩ = _ := r2 k _ e2
        have hrl := h1.len'
        obtain ⟨rs, hx⟩ : ∃ rs, rs = rss[k]'(by omega) := ⟨_, rfl⟩
        have hrs1 : rs.length ≤ 1000 := hrs rs (by rw [hx]; exact List.getElem_mem _)
        rw [← hx] at g1 g2 w1 w2
        have hR := bkSame1 x1 x2 rs.length y1 y2 rs rfl hrs1 wr w1 w2
        clear hx r1 r2 e1 e2
        go_wp2_with (go_at_call 24; (refine hR.mono ?_); rintro e w3 ⟨rfl, hu3⟩)
        have hU3 : Upd [] w w3 := hU.trans hu3 (fun _ h => .inl h)
        go_roundw
        case rel => exact ⟨k + 1, by omega, by go_num, hU3⟩
        case measure => simp [intOf]; omega
      · have hk0 : ¬ ((k : Int) < n) := by omega
        obtain rfl : k = n := by omega
        go_wp2
        go_ret
        exact ⟨rfl, hU⟩
  go_enter Tryz.func13, Tryz.ntmps13
  go_wp2_with (go_at_call 23; (refine hf.mono ?_); rintro e w2 ⟨rfl, hu2⟩)
  go_ret
  exact ⟨rfl, hu2⟩
end Go.Proofs.YteimeeepcfcfcaaGreatDoor
