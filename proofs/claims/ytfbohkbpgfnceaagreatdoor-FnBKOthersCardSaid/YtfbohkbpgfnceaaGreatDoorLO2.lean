/- Columns that are copied, and of which one is changed. -/
import Derived.Test.YtfbohkbpgfnceaaGreatDoorLO1
import Derived.Laws.IdiomStrings
import Derived.Laws.Cover3
namespace Go.Proofs.YtfbohkbpgfnceaaGreatDoor
set_option linter.unusedVariables false
set_option linter.unusedSimpArgs false
open Go Go.RowKit
theorem Tryz.info35 : (Tryz.prog.info? 35).map (fun i => (i.zero, i.size, i.bytes)) = some (some (.agg #[.string "".toUTF8, .int .i64 0, .slice none 0 0]), 3, 48) := by kernel_rfl
theorem rc_one (xs : List Rc) : ∀ u ∈ xs.flatMap Rc.cells, u.oneCell' = true := fun u hu => by
  obtain ⟨x, _, hx⟩ := List.mem_flatMap.1 hu
  simp only [Rc.cells, List.mem_cons, List.not_mem_nil, or_false] at hx
  rcases hx with rfl | rfl | rfl <;> rfl
theorem eqNilC (a : Option Addr) (l c : Nat) (w : World) : (binOp .eql 23 (.slice a l c) (.slice none 0 0)).run Tryz.prog w = .ok (.bool a.isNone) w := by
  have h := run_equal_slice_nil (P := Tryz.prog) w 23 35 a l c Tryz.underlying23
  simp [binOp, h]
set_option maxRecDepth 100000 in
set_option maxHeartbeats 400000 in
theorem cloneC (a : Addr) (n c : Nat) (xs : List Rc) (hl : xs.length = n) (w : World) (hv : View w 3 (some a) n (xs.flatMap Rc.cells)) (h0 : 0 < n) (hn : n ≤ 100) :
    Calls Tryz.prog 9 #[.slice (some a) n c] w fun e w' => ∃ g c', e = .returned (.slice (some ⟨g, 0, none⟩) n c') ∧ Row w' 35 3 (some ⟨g, 0, none⟩) n c' (xs.flatMap Rc.cells) ∧ Upd [] w w' ∧ w.heap.size ≤ g := by
  have hll := hv.len
  have hq := eqNilC (some a) n c
  go_enter Tryz.func9, Tryz.ntmps9
  have hrow : Row (w.alloc (.cells #[] 35)) 35 3 (some ⟨w.heap.size, 0, none⟩) 0 0 [] := Row.of _ (heap_alloc_new _ _) (Nat.le_refl _) (by decide) rfl rfl
  have u1 := (Upd.refl [] w).alloc (Obj.cells #[] 35)
  have hv1 := hv.upd u1 (by simp)
  have hsrc : Src Tryz.prog 3 23 (.slice (some a) n c) n (xs.flatMap Rc.cells) (w.alloc (.cells #[] 35)) := by
    obtain ⟨b, o, h, hr, hb⟩ := hv1.at_ (by omega)
    cases h
    exact Src.ofRange Tryz.underlying23 hll hr (rc_one xs)
  go_wp2_with (at_builtin; refine wpList_app _ rfl (.tmp 5) (.tmp 6) 23 23 rfl 35 (.agg #[.string "".toUTF8, .int .i64 0, .slice none 0 0]) 3 48 Tryz.underlying23 Tryz.info35 rfl (by decide) hrow rfl hsrc rfl (by decide) (by omega) ?_; intro ao1 c1 w2 hown1 hupd1 hin1)
  have hown2 : Row w2 35 3 ao1 n c1 (xs.flatMap Rc.cells) := by simpa using hown1
  obtain ⟨g, rfl⟩ := hown2.head h0
  go_ret
  refine ⟨g, c1, by simp, hown2, u1.trans hupd1 (fun y hy => by simp at hy; exact .inr (by omega)), ?_⟩
  rcases hin1 g (by simp) with h | h
  · simp at h; omega
  · simp at h; omega
theorem wpList_sliceHi {P : Program} {w : World} {ops : Array Oper} {rest : List Oper} {o : Oper} {a : Act} {Q : Exit → Act → World → Prop} (hgd : o.guard = none) (T e : TypeId) (sz : Nat) (x h : Operand) (ho : o.op = .slice T x none (some h) none) (hu : P.underlying T = some (.slice e)) (hsz : (P.info? e).map (·.size) = some sz)
    (b off n c : Nat) (hx : a.eval x = .slice (some ⟨b, off, none⟩) n c) (H : Int) {kh : IntKind} (hi : Nat) (hh : a.eval h = .int kh H) (hH : H = hi) (h2 : hi ≤ c) (h3 : 0 < c)
    (k : wpList P ops Q rest (a.put o.dst (.slice (some ⟨b, off, none⟩) hi c)) w) : wpList P ops Q (o :: rest) a w :=
  wpList_plain hgd fun K hK => by
    subst hH
    have he : P.elem T = e := by simp [Program.elem, hu]
    obtain ⟨i, hi1, hi2⟩ := Option.map_eq_some_iff.1 hsz
    have hr := run_slice_h (P := P) (w := w) T (some ⟨b, off, none⟩) n c (by rw [he]; exact hu) kh (hi : Int) (by omega) (by omega)
    have hne : ¬ c = 0 := by omega
    rw [he] at hr
    simp [sizeOf, typeInfo, hi1, hi2, Result.andThen, sliced, hne, Addr.add_lit] at hr
    unfold Oper.wp execOp
    simp only [ho, hx, Option.map_some, hh, Option.map_none]
    simp only [Sem.run_bind, run_sliceAt_slice (P := P) w T _ _ _ _ (by simp only [Program.elem, hu]), hr, Result.andThen_ok, Sem.run_pure]
    exact hK _ _ k
/-- a row's beginning -/
theorem view_take {w : World} {e : TypeId} {g n c : Nat} {xs : List Rc} (hl : xs.length = n) (h : Row w e 3 (some ⟨g, 0, none⟩) n c (xs.flatMap Rc.cells)) (k : Nat) (hk : k ≤ n) : View w 3 (some ⟨g, 0, none⟩) (xs.take k).length ((xs.take k).flatMap Rc.cells) := by
  refine ⟨by rw [flatMap_len _ 3 Rc.cells_len], fun hk0 => ⟨g, 0, rfl, fun j v hj => ?_, h.lt g (by simp)⟩⟩
  rw [Nat.zero_add]
  have hc : xs.flatMap Rc.cells = (xs.take k).flatMap Rc.cells ++ (xs.drop k).flatMap Rc.cells := by rw [← List.flatMap_append, List.take_append_drop]
  refine h.cell ?_
  rw [hc, List.getElem?_append_left (List.getElem?_eq_some_iff.1 hj).1]
  exact hj
/-- a row of which a cell is changed -/
theorem view_set {w : World} {e : TypeId} {g n c : Nat} {xs : List Rc} (h : Row w e 3 (some ⟨g, 0, none⟩) n c (xs.flatMap Rc.cells)) (hl : xs.length = n) (i : Nat) (hi : i < xs.length) (j : Nat) (hj : j < 3) (u : Value) (y : Rc) (hy : y.cells = xs[i].cells.set j u) :
    View (w.setCell ⟨g, i * 3 + j, none⟩ u) 3 (some ⟨g, 0, none⟩) n ((xs.set i y).flatMap Rc.cells) := by
  rw [flat_set Rc.cells 3 Rc.cells_len xs i hi y j hj u hy]
  exact Row.toView (World.ownsRow.stored h (i * 3 + j) u).1
end Go.Proofs.YtfbohkbpgfnceaaGreatDoor
