/- The rows that columns keep, as the law tells them; and as a block is read. -/
import Derived.Test.YtfbohkbpgfnceaaGreatDoorLK
namespace Go.Proofs.YtfbohkbpgfnceaaGreatDoor
set_option linter.unusedVariables false
set_option linter.unusedSimpArgs false
open Go Go.RowKit
theorem kept_len {R : Nat} {xs : List Rc} (hf : Fit R xs) : ∀ r ∈ xs.map keptR, r.length ≤ 1000 := fun r hr => by
  obtain ⟨x, hx, rfl⟩ := List.mem_map.1 hr
  have h1 := hf.rn x hx
  have h2 := hf.r1
  have h3 : (keptR x).length = x.rs.length := by simp [keptR]
  omega
/-- a slice that holds rows -/
def rowCell (x : List R4 × Option Addr × Nat) : List Value := [.slice x.2.1 x.1.length x.2.2]
theorem rowsV_of {w : World} {ao : Option Addr} (ws : List (List R4 × Option Addr × Nat)) (hv : View w 1 ao ws.length (ws.flatMap rowCell)) (hr : ∀ x ∈ ws, View w 4 x.2.1 x.1.length (x.1.flatMap R4.cells)) : RowsV w ao ws.length (ws.flatMap rowCell) (ws.map Prod.fst) := by
  refine ⟨hv, by rw [flatMap_len _ 1 (fun _ => rfl)]; omega, by simp, fun k hk => ⟨ws[k].2.1, ws[k].2.2, ?_, ?_⟩⟩
  · have h := flat_get rowCell 1 ws (fun _ _ => rfl) k hk 0 (by omega)
    simp only [Nat.mul_one, Nat.add_zero] at h
    rw [h]
    simp [rowCell]
  · have := hr ws[k] (List.getElem_mem _)
    simpa using this
/-- rows are given, column by column -/
def RowsSaid (n : Nat) (rss : List (List R4)) (e : Ending) (w : World) : Prop := ∃ ao c vs, e = .returned (.slice ao n c) ∧ RowsV w ao n vs rss
/-- the rows that are read of a block -/
theorem Decoded.rows {w : World} {hd : Value} {xs : List Rc} {left : Nat} {e : Ending} {w' : World} (h : Decoded w hd (xs.map Rc.bc) left e w') :
    ∃ ao c vs, e = .returned (.tuple #[hd, .slice ao xs.length c, .int .i64 left, .bool true]) ∧ RowsV w' ao xs.length vs (xs.map keptR) ∧ Upd [] w w' := by
  obtain ⟨ao, c, ws, h1, h2, h3, h4, h5, _⟩ := h
  rw [List.length_map] at h2 h3
  have hwl : ws.length = xs.length := by rw [← List.length_map (f := Prod.fst), h1, List.length_map]
  refine ⟨ao, c, (ws.map (fun x => ((x.1.rs.map x.1.K.kept : List R4), x.2))).flatMap rowCell, h2, ?_, h5⟩
  have hm : (ws.map (fun x => ((x.1.rs.map x.1.K.kept : List R4), x.2))).map Prod.fst = xs.map keptR := by
    rw [List.map_map]
    have : (Prod.fst ∘ fun x : Bc × Option Addr × Nat => ((x.1.rs.map x.1.K.kept : List R4), x.2)) = (fun b : Bc => b.rs.map b.K.kept) ∘ Prod.fst := rfl
    rw [this, ← List.map_map, h1, List.map_map]
    rfl
  have hc : (ws.map (fun x => ((x.1.rs.map x.1.K.kept : List R4), x.2))).flatMap rowCell = ws.flatMap rowCells := by
    rw [List.flatMap_map]
    congr 1
    funext x
    simp [rowCell, rowCells]
  have := rowsV_of (w := w') (ao := ao) (ws.map (fun x => ((x.1.rs.map x.1.K.kept : List R4), x.2))) (by rw [hc, List.length_map, hwl]; exact h3.toView) (fun x hx => by
    obtain ⟨y, hy, rfl⟩ := List.mem_map.1 hx
    have := (h4 y hy).1
    simpa [keptV, List.flatMap_map] using this)
  rw [hm, List.length_map, hwl] at this
  exact this
end Go.Proofs.YtfbohkbpgfnceaaGreatDoor
