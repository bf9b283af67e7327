/- The columns of a law: as they come in, and as kinds. -/
import Derived.Test.YtfbohkbpgfnceaaGreatDoorME
import Derived.Test.YtfbohkbpgfnceaaGreatDoorKH1
import Derived.Test.YtfbohkbpgfnceaaGreatDoorKH2
import Derived.Test.YtfbohkbpgfnceaaGreatDoorKH3
import Derived.ProofKit
import Derived.OpenShut
import Derived.ChangeSame
import Derived.Deep.Slices
import Derived.Deep.Strs
namespace Go.Proofs.YtfbohkbpgfnceaaGreatDoor
set_option linter.unusedVariables false
set_option linter.unusedSimpArgs false
open Go Go.RowKit Go.ChangeShapes
/-- the kind of a number -/
def kd (k : Int) : Kd := if k = 1 then K_i8 else if k = 2 then K_i16 else if k = 3 then K_i32 else if k = 4 then K_i64 else if k = 5 then K_i128 else if k = 6 then K_i256 else if k = 7 then K_u8 else if k = 8 then K_u16 else if k = 9 then K_u32 else if k = 10 then K_u64 else if k = 11 then K_u128 else if k = 12 then K_u256 else if k = 13 then K_f32 else if k = 14 then K_f64 else if k = 15 then K_bf else if k = 16 then K_bool else if k = 17 then K_ipv4 else K_ip
theorem kd_ok (k : Int) (h1 : 1 ≤ k) (h2 : k ≤ 18) : KdOK (kd k) ∧ (kd k).kind = k := by
  have h : k = 1 ∨ k = 2 ∨ k = 3 ∨ k = 4 ∨ k = 5 ∨ k = 6 ∨ k = 7 ∨ k = 8 ∨ k = 9 ∨ k = 10 ∨ k = 11 ∨ k = 12 ∨ k = 13 ∨ k = 14 ∨ k = 15 ∨ k = 16 ∨ k = 17 ∨ k = 18 := by omega
  rcases h with rfl | rfl | rfl | rfl | rfl | rfl | rfl | rfl | rfl | rfl | rfl | rfl | rfl | rfl | rfl | rfl | rfl | rfl
  · exact ⟨ok_i8, rfl⟩
  · exact ⟨ok_i16, rfl⟩
  · exact ⟨ok_i32, rfl⟩
  · exact ⟨ok_i64, rfl⟩
  · exact ⟨ok_i128, rfl⟩
  · exact ⟨ok_i256, rfl⟩
  · exact ⟨ok_u8, rfl⟩
  · exact ⟨ok_u16, rfl⟩
  · exact ⟨ok_u32, rfl⟩
  · exact ⟨ok_u64, rfl⟩
  · exact ⟨ok_u128, rfl⟩
  · exact ⟨ok_u256, rfl⟩
  · exact ⟨ok_f32, rfl⟩
  · exact ⟨ok_f64, rfl⟩
  · exact ⟨ok_bf, rfl⟩
  · exact ⟨ok_bool, rfl⟩
  · exact ⟨ok_ipv4, rfl⟩
  · exact ⟨ok_ip, rfl⟩
/-- a column as it comes in -/
structure Rc where
  nm : ByteArray
  kind : Int
  rs : List R4
  ar : Option Addr
  cp : Nat
def Rc.cells (x : Rc) : List Value := [.string x.nm, .int .i64 x.kind, .slice x.ar x.rs.length x.cp]
theorem Rc.cells_len (x : Rc) : x.cells.length = 3 := rfl
def Rc.bc (x : Rc) : Bc := ⟨x.nm, kd x.kind, x.rs, x.ar, x.cp⟩
/-- columns that come in -/
structure Rcs (w : World) (ac : Option Addr) (xs : List Rc) : Prop where
  view : View w 3 ac xs.length (xs.flatMap Rc.cells)
  rows : ∀ x ∈ xs, View w 4 x.ar x.rs.length (x.rs.flatMap R4.cells)
  rok : ∀ x ∈ xs, ∀ r ∈ x.rs, Ok4 r
theorem Rcs.upd {w w' : World} {ac : Option Addr} {xs : List Rc} (h : Rcs w ac xs) (hu : Upd [] w w') : Rcs w' ac xs := ⟨h.view.upd hu (by simp), fun x hx => (h.rows x hx).upd hu (by simp), h.rok⟩
/-- columns that a law speaks of -/
structure Fit (R : Nat) (xs : List Rc) : Prop where
  n0 : 0 < xs.length
  n1 : xs.length ≤ 5
  k : ∀ x ∈ xs, 1 ≤ x.kind ∧ x.kind ≤ 18
  nm : ∀ x ∈ xs, 0 < x.nm.size ∧ x.nm.size ≤ 30
  rn : ∀ x ∈ xs, x.rs.length = R
  r0 : 0 < R
  r1 : R ≤ 20
theorem Fit.okB {R : Nat} {xs : List Rc} (h : Fit R xs) (hr : ∀ x ∈ xs, ∀ r ∈ x.rs, Ok4 r) : ∀ b ∈ xs.map Rc.bc, OkB b := fun b hb => by
  obtain ⟨x, hx, rfl⟩ := List.mem_map.1 hb
  have h1 := h.k x hx
  have h2 := h.nm x hx
  have h3 := h.rn x hx
  have h4 := h.r0
  have h5 := h.r1
  exact ⟨(kd_ok _ h1.1 h1.2).1, hr x hx, by show 0 < x.rs.length; omega, by show x.rs.length ≤ 20; omega, by show x.nm.size ≤ 40; omega⟩
theorem Fit.rnB {R : Nat} {xs : List Rc} (h : Fit R xs) : ∀ b ∈ xs.map Rc.bc, b.rs.length = R := fun b hb => by
  obtain ⟨x, hx, rfl⟩ := List.mem_map.1 hb
  exact h.rn x hx
theorem Fit.nmB {R : Nat} {xs : List Rc} (h : Fit R xs) : ∀ b ∈ xs.map Rc.bc, 0 < b.nm.size := fun b hb => by
  obtain ⟨x, hx, rfl⟩ := List.mem_map.1 hb
  exact (h.nm x hx).1
theorem bc_cells {xs : List Rc} (h : ∀ x ∈ xs, 1 ≤ x.kind ∧ x.kind ≤ 18) : (xs.map Rc.bc).flatMap Bc.cells = xs.flatMap Rc.cells := by
  induction xs with
  | nil => rfl
  | cons x xs ih =>
    have h1 := h x (List.mem_cons_self)
    simp only [List.map_cons, List.flatMap_cons]
    rw [ih (fun y hy => h y (List.mem_cons_of_mem _ hy))]
    congr 1
    simp only [Rc.bc, Bc.cells, Rc.cells, (kd_ok _ h1.1 h1.2).2]
theorem Rcs.bcs {w : World} {ac : Option Addr} {xs : List Rc} {R : Nat} (h : Rcs w ac xs) (hf : Fit R xs) : Bcs w ac (xs.map Rc.bc) := by
  refine ⟨by rw [List.length_map, bc_cells hf.k]; exact h.view, fun b hb => ?_⟩
  obtain ⟨x, hx, rfl⟩ := List.mem_map.1 hb
  exact h.rows x hx
instance : Inhabited R4 := ⟨⟨0, 0, 0, 0⟩⟩
instance : Inhabited Rc := ⟨⟨ByteArray.empty, 0, [], none, 0⟩⟩
/-- a slice of elements of some cells that came in -/
theorem view_of {α : Type} (g : α → List Value) (m : Nat) (hm : 0 < m) (hg : ∀ a, (g a).length = m) {w : World} {a : Addr} {len : Nat} (f : Nat → α) (hc : ∀ i, i < len → ∀ j, j < m → w.cell? (a.add (i * m + j)) = (g (f i))[j]?) :
    View w m (some a) len (((List.range len).map f).flatMap g) := by
  refine ⟨by rw [flatMap_len _ m hg]; simp, fun hn => ?_⟩
  obtain ⟨b, o, spot⟩ := a
  obtain ⟨u, hu⟩ : ∃ u, (g (f 0))[0]? = some u := ⟨(g (f 0))[0]'(by rw [hg]; exact hm), by simp⟩
  have h0 : w.cell? ((⟨b, o, spot⟩ : Addr).add 0) = some u := by
    have := hc 0 hn 0 hm
    rw [hu] at this
    simpa using this
  obtain rfl : spot = none := by simpa [Addr.add] using World.cell?_spot h0
  refine ⟨b, o, rfl, fun j v hj => ?_, World.block_lt_of_cell? w _ h0⟩
  have hjl : j < len * m := by
    have := (List.getElem?_eq_some_iff.1 hj).1
    rw [flatMap_len _ m hg] at this
    simpa using this
  have hq : j / m < len := Nat.div_lt_of_lt_mul (by rw [Nat.mul_comm]; exact hjl)
  have hr : j % m < m := Nat.mod_lt _ hm
  have he : j / m * m + j % m = j := by rw [Nat.mul_comm]; exact Nat.div_add_mod j m
  have h1 := flat_get g m ((List.range len).map f) (fun a _ => hg a) (j / m) (by simpa using hq) (j % m) hr
  rw [he, hj] at h1
  have h2 := hc (j / m) hq (j % m) hr
  rw [he, Addr.add_mid] at h2
  rw [h2, h1]
  simp
theorem open_rows {H : Type} {enc : TypeId × Value → H} {w : World} {base : Nat} {spare : Nat → Bool} {held : Bool} {fuel : Nat} {cs : List Value} {x : DataW H × List MemPlace}
    (h : DataW.trod enc Tryz.prog w base spare held fuel 33 cs = some x) : ∃ ao len cap, cs = [.slice ao len cap] ∧ ∃ rs : List R4, rs.length = len ∧ View w 4 ao len (rs.flatMap R4.cells) ∧ ∀ r ∈ rs, Ok4 r := by
  rcases Deep.open_slice Tryz.underlying33 h with ⟨rfl, _⟩ | ⟨a, l, c, m, n, D, Pl, rfl, _, hl, hm, hmm, _, hx⟩
  · exact ⟨none, 0, 0, rfl, [], rfl, View.nil, by simp⟩
  · have hlm : l ≤ m := by rw [hmm]; split <;> omega
    have c4 : Tryz.prog.cellsOf 67 = 4 := by kernel_rfl
    have c1 : Tryz.prog.cellsOf 65 = 1 := by kernel_rfl
    rw [c4] at hx
    obtain ⟨f, hf⟩ := Deep.choose_lt (α := R4) (p := fun i r => (∀ j, j < 4 → w.cell? (a.add (i * 4 + j)) = r.cells[j]?) ∧ Ok4 r) (n := l) (fun i hi => by
      obtain ⟨cs', h1, h2⟩ := hx i (by omega)
      obtain ⟨_, h3, h4⟩ := World.cells?_some h1
      obtain ⟨xs, k, _, _, h5, h6, h7⟩ := DataW.trod_array Tryz.underlying67 h2
      have hint : ∀ j, j < 4 → ∃ q : Int, cs'[j]? = some (.int .u64 q) ∧ 0 ≤ q ∧ q < 18446744073709551616 := fun j hj => by
        have h8 := h7 j hj
        rw [c1, Nat.mul_one] at h8
        obtain ⟨y, hy⟩ : ∃ y, xs[j]? = some y := ⟨xs[j]'(by omega), by simp [h6, hj]⟩
        rw [hy] at h8
        obtain ⟨q, h9, _, hwf⟩ := DataW.trod_int Tryz.underlying65 h8
        refine ⟨q, ?_, ?_⟩
        · have : ((cs'.drop j).take 1)[0]? = some (.int .u64 q) := by rw [h9]; rfl
          simpa using this
        · have m0 : IntKind.u64.min = 0 := by rfl
          have m1 : IntKind.u64.max = 18446744073709551615 := by rfl
          simp [Lit.wf, m0, m1] at hwf
          omega
      obtain ⟨q0, e0, r0⟩ := hint 0 (by omega)
      obtain ⟨q1, e1, r1⟩ := hint 1 (by omega)
      obtain ⟨q2, e2, r2⟩ := hint 2 (by omega)
      obtain ⟨q3, e3, r3⟩ := hint 3 (by omega)
      refine ⟨⟨q0, q1, q2, q3⟩, fun j hj => ?_, ⟨r0, r1, r2, r3⟩⟩
      have h8 := h4 j hj
      rw [Deep.add_add] at h8
      rw [h8]
      match j, hj with
      | 0, _ => exact e0
      | 1, _ => exact e1
      | 2, _ => exact e2
      | 3, _ => exact e3)
    refine ⟨some a, l, c, rfl, (List.range l).map f, by simp, view_of R4.cells 4 (by decide) R4.cells_len f (fun i hi => (hf i hi).1), fun r hr => ?_⟩
    obtain ⟨i, hi, rfl⟩ := List.mem_map.1 hr
    exact (hf i (by simpa using hi)).2
theorem open_cols {H : Type} {enc : TypeId × Value → H} {w : World} {base : Nat} {spare : Nat → Bool} {held : Bool} {fuel : Nat} {cs : List Value} {x : DataW H × List MemPlace}
    (h : DataW.trod enc Tryz.prog w base spare held fuel 23 cs = some x) : ∃ ao len cap, cs = [.slice ao len cap] ∧ len ≤ cap ∧ len ≤ 9223372036854775807 ∧ ∃ xs : List Rc, xs.length = len ∧ Rcs w ao xs := by
  rcases Deep.open_slice Tryz.underlying23 h with ⟨rfl, _⟩ | ⟨a, l, c, m, n, D, Pl, rfl, _, hl, hm, hmm, _, hx⟩
  · exact ⟨none, 0, 0, rfl, Nat.le_refl _, by omega, [], rfl, ⟨View.nil, by simp, by simp⟩⟩
  · have hlm : l ≤ m := by rw [hmm]; split <;> omega
    have c3 : Tryz.prog.cellsOf 35 = 3 := by kernel_rfl
    have cs1 : Tryz.prog.cellsOf 9 = 1 := by kernel_rfl
    have ci1 : Tryz.prog.cellsOf 3 = 1 := by kernel_rfl
    have cr1 : Tryz.prog.cellsOf 33 = 1 := by kernel_rfl
    rw [c3] at hx
    obtain ⟨f, hf⟩ := Deep.choose_lt (α := Rc) (p := fun i r => (∀ j, j < 3 → w.cell? (a.add (i * 3 + j)) = r.cells[j]?) ∧ View w 4 r.ar r.rs.length (r.rs.flatMap R4.cells) ∧ ∀ y ∈ r.rs, Ok4 y) (n := l) (fun i hi => by
      obtain ⟨cs', h1, h2⟩ := hx i (by omega)
      obtain ⟨_, h3, h4⟩ := World.cells?_some h1
      obtain ⟨y0, y1, y2, k, _, _, h6, h7, h8⟩ := Deep.trod_struct3 Tryz.underlying35 h2
      obtain ⟨q0, e0, _⟩ := DataW.trod_string Tryz.underlying9 h6
      obtain ⟨q1, e1, _⟩ := DataW.trod_int Tryz.underlying3 h7
      obtain ⟨q2, l2, c2, e2, rs, hrl, hrv, hro⟩ := open_rows h8
      have g0 : cs'[0]? = some (.string q0) := by
        have := congrArg (fun l => l[0]?) e0
        simpa [cs1] using this
      have g1 : cs'[1]? = some (.int .i64 q1) := by
        have := congrArg (fun l => l[0]?) e1
        simpa [ci1] using this
      have g2 : cs'[2]? = some (.slice q2 l2 c2) := by
        have := congrArg (fun l => l[0]?) e2
        simpa [cr1] using this
      refine ⟨⟨q0, q1, rs, q2, c2⟩, fun j hj => ?_, by rw [hrl]; exact hrv, hro⟩
      have h9 := h4 j hj
      rw [Deep.add_add] at h9
      rw [h9]
      match j, hj with
      | 0, _ => exact g0
      | 1, _ => exact g1
      | 2, _ => rw [g2]; simp [Rc.cells, hrl])
    refine ⟨some a, l, c, rfl, hl, by unfold maxLen at hm; omega, (List.range l).map f, by simp, ⟨?_, fun x hx => ?_, fun x hx => ?_⟩⟩
    · rw [List.length_map, List.length_range]
      exact view_of Rc.cells 3 (by decide) Rc.cells_len f (fun i hi => (hf i hi).1)
    · obtain ⟨i, hi, rfl⟩ := List.mem_map.1 hx
      exact (hf i (by simpa using hi)).2.1
    · obtain ⟨i, hi, rfl⟩ := List.mem_map.1 hx
      exact (hf i (by simpa using hi)).2.2
end Go.Proofs.YtfbohkbpgfnceaaGreatDoor
