/- What is true of the whole program: closed facts, each by itself. -/
import Derived.Test.YtfbohkbpgfnceaaGreatDoorRows
import Derived.ProofKit
namespace Go.Proofs.YtfbohkbpgfnceaaGreatDoor
set_option linter.unusedVariables false
set_option linter.unusedSimpArgs false
open Go
theorem and_mk {a b : Bool} (h : a = true) (k : b = true) : (a && b) = true := by rw [h, k]; rfl
theorem all_range_chunks (p : Nat → Bool) (n m : Nat) (h : ∀ i, i < m → (List.range' (i * 50) 50).all p = true) (hn : n ≤ m * 50) : (List.range n).all p = true := by
  rw [List.all_eq_true]
  intro t ht
  have ht' : t < n := List.mem_range.1 ht
  have h1 := h (t / 50) (by omega)
  rw [List.all_eq_true] at h1
  exact h1 t (List.mem_range'_1.2 ⟨by omega, by omega⟩)
theorem all_range_rest (p : Nat → Bool) (n m : Nat) (h : ∀ i, i < m → (List.range' (i * 50) 50).all p = true) (hr : (List.range' (m * 50) (n - m * 50)).all p = true) : (List.range n).all p = true := by
  rw [List.all_eq_true]
  intro t ht
  have ht' : t < n := List.mem_range.1 ht
  by_cases hm : t < m * 50
  · have h1 := h (t / 50) (by omega)
    rw [List.all_eq_true] at h1
    exact h1 t (List.mem_range'_1.2 ⟨by omega, by omega⟩)
  · rw [List.all_eq_true] at hr
    exact hr t (List.mem_range'_1.2 ⟨by omega, by omega⟩)
theorem types_size : Tryz.prog.types.size = 525 := by kernel_rfl
theorem fine0 : (List.range' (0 * 50) 50).all (rowFine Tryz.prog) = true := by kernel_rfl
theorem fine1 : (List.range' (1 * 50) 50).all (rowFine Tryz.prog) = true := by kernel_rfl
theorem fine2 : (List.range' (2 * 50) 50).all (rowFine Tryz.prog) = true := by kernel_rfl
theorem fine3 : (List.range' (3 * 50) 50).all (rowFine Tryz.prog) = true := by kernel_rfl
theorem fine4 : (List.range' (4 * 50) 50).all (rowFine Tryz.prog) = true := by kernel_rfl
theorem fine5 : (List.range' (5 * 50) 50).all (rowFine Tryz.prog) = true := by kernel_rfl
theorem fine6 : (List.range' (6 * 50) 50).all (rowFine Tryz.prog) = true := by kernel_rfl
theorem fine7 : (List.range' (7 * 50) 50).all (rowFine Tryz.prog) = true := by kernel_rfl
theorem fine8 : (List.range' (8 * 50) 50).all (rowFine Tryz.prog) = true := by kernel_rfl
theorem fine9 : (List.range' (9 * 50) 50).all (rowFine Tryz.prog) = true := by kernel_rfl
theorem fineR : (List.range' (10 * 50) (525 - 10 * 50)).all (rowFine Tryz.prog) = true := by kernel_rfl
theorem laidGlobals : Tryz.prog.globals.all (fun g => decide (g.type < Tryz.prog.types.size)) = true := by kernel_rfl
theorem laidFuncs : Tryz.prog.funcs.all (fun f => f.params.all fun t => decide (t < Tryz.prog.types.size)) = true := by kernel_rfl
theorem laid : laidOutB Tryz.prog = true := by
  unfold laidOutB
  refine and_mk (and_mk ?_ laidGlobals) laidFuncs
  rw [types_size]
  refine all_range_rest _ _ 10 (fun i hi => ?_) fineR
  match i, hi with
  | 0, _ => exact fine0
  | 1, _ => exact fine1
  | 2, _ => exact fine2
  | 3, _ => exact fine3
  | 4, _ => exact fine4
  | 5, _ => exact fine5
  | 6, _ => exact fine6
  | 7, _ => exact fine7
  | 8, _ => exact fine8
  | 9, _ => exact fine9
theorem fMaps : mapsRowed Tryz.prog = true := by kernel_rfl
theorem fKeys : (Rows.fnBKOthersRow.plainKeys == Program.plainKeys Tryz.prog) = true := by kernel_rfl
theorem fHeard : Program.stopsHeard Tryz.prog = true := by kernel_rfl
theorem fEnter : Program.mayEnter Tryz.prog = true := by kernel_rfl
theorem fLift : (Rows.fnBKOthersRow.lifted == Program.liftsFinal Tryz.prog) = true := by kernel_rfl
theorem fMake : (Program.make Tryz.prog == some Rows.fnBKOthersRow.make) = true := by kernel_rfl
theorem fStops : (Program.stops Tryz.prog == []) = true := by kernel_rfl
theorem fKnobs : (Program.stopKnobs Tryz.prog == []) = true := by kernel_rfl
#print axioms laid
end Go.Proofs.YtfbohkbpgfnceaaGreatDoor
