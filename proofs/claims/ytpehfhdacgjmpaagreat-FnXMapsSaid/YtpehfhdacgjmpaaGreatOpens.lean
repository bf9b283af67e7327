/- Slices of structs of two cells that came in. -/
import Derived.Test.YtpehfhdacgjmpaaGreatNullIn
import Derived.ProofKit
import Derived.ChangeSame
import Derived.Deep.Slices
namespace Go.Proofs.YtpehfhdacgjmpaaGreat
open Go Go.RowKit Go.ChangeShapes
theorem view_N {w : World} {a : Addr} {len : Nat} (f : Nat → Bool × ByteArray) (hc : ∀ i, i < len → ∀ j, j < 2 → w.cell? (a.add (i * 2 + j)) = (cells_N (f i))[j]?) :
    View w 2 (some a) len (((List.range len).map f).flatMap cells_N) := by
  refine ⟨by rw [flatMap_len _ 2 cells_N_len]; simp, fun hn => ?_⟩
  obtain ⟨b, o, spot⟩ := a
  have h0 : w.cell? ((⟨b, o, spot⟩ : Addr).add 0) = some (.bool (f 0).1) := hc 0 hn 0 (by omega)
  obtain rfl : spot = none := by simpa [Addr.add] using World.cell?_spot h0
  refine ⟨b, o, rfl, fun j v hj => ?_, ?_⟩
  · have hjl : j < len * 2 := by
      have := (List.getElem?_eq_some_iff.1 hj).1
      rw [flatMap_len _ 2 cells_N_len] at this
      simpa using this
    have h1 := flat_getS cells_N 2 cells_N_len ((List.range len).map f) (j / 2) (by simp; omega) (j % 2) (by omega)
    rw [show j / 2 * 2 + j % 2 = j by omega, hj] at h1
    have h2 := hc (j / 2) (by omega) (j % 2) (by omega)
    rw [show j / 2 * 2 + j % 2 = j by omega, Addr.add_mid] at h2
    rw [h2, h1]
    simp
  · exact World.block_lt_of_cell? w _ h0
theorem open_N {H : Type} {enc : TypeId × Value → H} {w : World} {base : Nat} {spare : Nat → Bool} {held : Bool} {fuel : Nat} {cs : List Value} {x : DataW H × List MemPlace}
    (h : DataW.trod enc Tryz.prog w base spare held fuel 44 cs = some x) : ∃ ax l cx, cs = [.slice ax l cx] ∧ l ≤ cx ∧ ∃ ms : List (Bool × ByteArray), ms.length = l ∧ View w 2 ax l (ms.flatMap cells_N) := by
  rcases Deep.open_slice Tryz.underlying44 h with ⟨rfl, _⟩ | ⟨a, l, c, m, n, D, Pl, rfl, _, hl, hm, hmm, _, hx⟩
  · exact ⟨none, 0, 0, rfl, Nat.le_refl _, [], rfl, View.nil⟩
  · have hlm : l ≤ m := by rw [hmm]; split <;> omega
    have c2 : Tryz.prog.cellsOf 48 = 2 := by kernel_rfl
    have c0 : Tryz.prog.cellsOf 4 = 1 := by kernel_rfl
    have c1 : Tryz.prog.cellsOf 9 = 1 := by kernel_rfl
    rw [c2] at hx
    obtain ⟨f, hf⟩ := Deep.choose_lt (α := Bool × ByteArray) (p := fun i r => ∀ j, j < 2 → w.cell? (a.add (i * 2 + j)) = (cells_N r)[j]?) (n := l) (fun i hi => by
      obtain ⟨cs', h1, h2⟩ := hx i (by omega)
      obtain ⟨_, h3, h4⟩ := World.cells?_some h1
      obtain ⟨y0, y1, k, _, _, h6, h7⟩ := trod_struct2 Tryz.underlying48 h2
      obtain ⟨q0, e0, _⟩ := DataW.trod_bool Tryz.underlying4 h6
      obtain ⟨q1, e1, _⟩ := DataW.trod_string Tryz.underlying9 h7
      have g0 : cs'[0]? = some (.bool q0) := by
        have := congrArg (fun l => l[0]?) e0
        simpa [c0] using this
      have g1 : cs'[1]? = some (.string q1) := by
        have := congrArg (fun l => l[0]?) e1
        simpa [c1] using this
      refine ⟨(q0, q1), fun j hj => ?_⟩
      have h8 := h4 j hj
      rw [Deep.add_add] at h8
      rw [h8]
      match j, hj with
      | 0, _ => exact g0
      | 1, _ => exact g1)
    exact ⟨some a, l, c, rfl, by omega, (List.range l).map f, by simp, view_N f hf⟩
theorem view_M {w : World} {a : Addr} {len : Nat} (f : Nat → ByteArray × ByteArray) (hc : ∀ i, i < len → ∀ j, j < 2 → w.cell? (a.add (i * 2 + j)) = (cells_M (f i))[j]?) :
    View w 2 (some a) len (((List.range len).map f).flatMap cells_M) := by
  refine ⟨by rw [flatMap_len _ 2 cells_M_len]; simp, fun hn => ?_⟩
  obtain ⟨b, o, spot⟩ := a
  have h0 : w.cell? ((⟨b, o, spot⟩ : Addr).add 0) = some (.string (f 0).1) := hc 0 hn 0 (by omega)
  obtain rfl : spot = none := by simpa [Addr.add] using World.cell?_spot h0
  refine ⟨b, o, rfl, fun j v hj => ?_, ?_⟩
  · have hjl : j < len * 2 := by
      have := (List.getElem?_eq_some_iff.1 hj).1
      rw [flatMap_len _ 2 cells_M_len] at this
      simpa using this
    have h1 := flat_getS cells_M 2 cells_M_len ((List.range len).map f) (j / 2) (by simp; omega) (j % 2) (by omega)
    rw [show j / 2 * 2 + j % 2 = j by omega, hj] at h1
    have h2 := hc (j / 2) (by omega) (j % 2) (by omega)
    rw [show j / 2 * 2 + j % 2 = j by omega, Addr.add_mid] at h2
    rw [h2, h1]
    simp
  · exact World.block_lt_of_cell? w _ h0
theorem open_M {H : Type} {enc : TypeId × Value → H} {w : World} {base : Nat} {spare : Nat → Bool} {held : Bool} {fuel : Nat} {cs : List Value} {x : DataW H × List MemPlace}
    (h : DataW.trod enc Tryz.prog w base spare held fuel 58 cs = some x) : ∃ ax l cx, cs = [.slice ax l cx] ∧ l ≤ cx ∧ ∃ ms : List (ByteArray × ByteArray), ms.length = l ∧ View w 2 ax l (ms.flatMap cells_M) := by
  rcases Deep.open_slice Tryz.underlying58 h with ⟨rfl, _⟩ | ⟨a, l, c, m, n, D, Pl, rfl, _, hl, hm, hmm, _, hx⟩
  · exact ⟨none, 0, 0, rfl, Nat.le_refl _, [], rfl, View.nil⟩
  · have hlm : l ≤ m := by rw [hmm]; split <;> omega
    have c2 : Tryz.prog.cellsOf 60 = 2 := by kernel_rfl
    have c0 : Tryz.prog.cellsOf 9 = 1 := by kernel_rfl
    have c1 : Tryz.prog.cellsOf 9 = 1 := by kernel_rfl
    rw [c2] at hx
    obtain ⟨f, hf⟩ := Deep.choose_lt (α := ByteArray × ByteArray) (p := fun i r => ∀ j, j < 2 → w.cell? (a.add (i * 2 + j)) = (cells_M r)[j]?) (n := l) (fun i hi => by
      obtain ⟨cs', h1, h2⟩ := hx i (by omega)
      obtain ⟨_, h3, h4⟩ := World.cells?_some h1
      obtain ⟨y0, y1, k, _, _, h6, h7⟩ := trod_struct2 Tryz.underlying60 h2
      obtain ⟨q0, e0, _⟩ := DataW.trod_string Tryz.underlying9 h6
      obtain ⟨q1, e1, _⟩ := DataW.trod_string Tryz.underlying9 h7
      have g0 : cs'[0]? = some (.string q0) := by
        have := congrArg (fun l => l[0]?) e0
        simpa [c0] using this
      have g1 : cs'[1]? = some (.string q1) := by
        have := congrArg (fun l => l[0]?) e1
        simpa [c1] using this
      refine ⟨(q0, q1), fun j hj => ?_⟩
      have h8 := h4 j hj
      rw [Deep.add_add] at h8
      rw [h8]
      match j, hj with
      | 0, _ => exact g0
      | 1, _ => exact g1)
    exact ⟨some a, l, c, rfl, by omega, (List.range l).map f, by simp, view_M f hf⟩
end Go.Proofs.YtpehfhdacgjmpaaGreat
