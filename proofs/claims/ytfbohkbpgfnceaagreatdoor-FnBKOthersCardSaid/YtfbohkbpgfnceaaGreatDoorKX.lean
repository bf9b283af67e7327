/- Rows that are compared: slices.Equal, slices.EqualFunc, bkSame. -/
import Derived.Test.YtfbohkbpgfnceaaGreatDoorKU
import Derived.ChangeKeysEq
import Derived.Laws.StructEq
namespace Go.Proofs.YtfbohkbpgfnceaaGreatDoor
set_option linter.unusedVariables false
set_option linter.unusedSimpArgs false
open Go Go.RowKit
theorem eqRow (a b c d : Int) (w : World) : (Op.equalIn 10000 67 (.agg #[.int .u64 a, .int .u64 b, .int .u64 c, .int .u64 d]) (.agg #[.int .u64 a, .int .u64 b, .int .u64 c, .int .u64 d])).run Tryz.prog w = .ok true w := by
  have c1 : Tryz.prog.cellsOf 65 = 1 := by kernel_rfl
  have p0 : (part 65 #[.int .u64 a, .int .u64 b, .int .u64 c, .int .u64 d] 0).run Tryz.prog w = .ok (.int .u64 a) w := by kernel_rfl
  have p1 : (part 65 #[.int .u64 a, .int .u64 b, .int .u64 c, .int .u64 d] 1).run Tryz.prog w = .ok (.int .u64 b) w := by kernel_rfl
  have p2 : (part 65 #[.int .u64 a, .int .u64 b, .int .u64 c, .int .u64 d] 2).run Tryz.prog w = .ok (.int .u64 c) w := by kernel_rfl
  have p3 : (part 65 #[.int .u64 a, .int .u64 b, .int .u64 c, .int .u64 d] 3).run Tryz.prog w = .ok (.int .u64 d) w := by kernel_rfl
  have q : ∀ x : Int, (Op.equalIn 9999 65 (.int .u64 x) (.int .u64 x)).run Tryz.prog w = .ok true w := fun x => by
    rw [show (9999 : Nat) = 9998 + 1 from rfl, run_equalIn_int w 9998 65 .u64 .u64 x x Tryz.underlying65]
    simp
  obtain ⟨i, hi, _⟩ := Option.map_eq_some_iff.1 Tryz.info65
  rw [show (10000 : Nat) = 9999 + 1 from rfl, run_equalIn_array w 9999 _ _ Tryz.underlying67 hi, show List.range 4 = [0, 1, 2, 3] from rfl, c1]
  simp only [Op.eqItems, Nat.mul_one, Sem.run_bind, p0, p1, p2, p3, q, Result.andThen_ok, Bool.not_true, Bool.false_eq_true, if_false, Sem.run_pure]
theorem eqRowB (r : R4) (w : World) : (binOp .neq 67 (.agg r.cells.toArray) (.agg r.cells.toArray)).run Tryz.prog w = .ok (.bool false) w := by
  rw [run_neq_struct]
  have h : (Op.equalIn 10000 67 (.agg r.cells.toArray) (.agg r.cells.toArray)).run Tryz.prog w = .ok true w := eqRow r.a r.b r.c r.d w
  rw [h]
  rfl
theorem eqRowG (x y : Operand) (r : R4) (w : World) : (eqGuard .neq 67 x y (.agg r.cells.toArray) (.agg r.cells.toArray)).run Tryz.prog w = .ok () w := run_eqGuard_agg w .neq 67 x y _ _ (by kernel_rfl)
theorem eqRow4 (r : R4) (w : World) : (Op.equalIn 10000 67 (.agg r.cells.toArray) (.agg r.cells.toArray)).run Tryz.prog w = .ok true w := eqRow r.a r.b r.c r.d w
theorem yields_neqRow {ops : Array Oper} {S : World → Prop} {o : Oper} {a : Act} (hg : o.guard = none) (x y : Operand) (ty : TypeId) (ho : o.op = .binOp .neq 67 x y ty) (r : R4) (hx : a.eval x = .agg r.cells.toArray) (hy : a.eval y = .agg r.cells.toArray) :
    YieldsIf Tryz.prog ops S o (.bool false) a := by
  refine .inl ⟨by simp [Region.wanted, hg], fun w _ => ?_⟩
  have h1 := eqRowG x y r w
  have h2 := eqRowB r w
  generalize r.cells.toArray = X at *
  unfold execOp
  simp only [ho, hx, hy, Sem.run_bind, h1, h2, Result.andThen_ok, Sem.run_pure]
theorem piece_at {α : Type} (f : α → List Value) (m : Nat) (hf : ∀ a, (f a).length = m) {w : World} {b o : Nat} {l : List α} (h : w.rangeAt b o (l.flatMap f)) (k : Nat) (hk : k < l.length) : w.rangeAt b (o + k * m) (f l[k]) := fun j v hj =>
  (cells_at f m hf h k hk j (by have := (List.getElem?_eq_some_iff.1 hj).1; rw [hf] at this; exact this)).trans hj
/-- the rows of some columns: a slice of slices of rows -/
structure RowsV (w : World) (ao : Option Addr) (n : Nat) (vs : List Value) (rss : List (List R4)) : Prop where
  view : View w 1 ao n vs
  len : vs.length = n
  len' : rss.length = n
  row : ∀ (k : Nat) (hk : k < n), ∃ a c, vs[k]? = some (.slice a (rss[k]'(by omega)).length c) ∧ View w 4 a (rss[k]'(by omega)).length ((rss[k]'(by omega)).flatMap R4.cells)
theorem RowsV.upd {w w' : World} {ao : Option Addr} {n : Nat} {vs : List Value} {rss : List (List R4)} (h : RowsV w ao n vs rss) (hu : Upd [] w w') : RowsV w' ao n vs rss :=
  ⟨h.view.upd hu (by simp), h.len, h.len', fun k hk => by obtain ⟨a, c, h1, h2⟩ := h.row k hk; exact ⟨a, c, h1, h2.upd hu (by simp)⟩⟩
end Go.Proofs.YtfbohkbpgfnceaaGreatDoor
