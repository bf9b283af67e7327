/- The rows that columns keep, as the law tells them; and as a block is read. -/
import Derived.Test.YteimeeepcfcfcaaGreatDoorLK
namespace Go.Proofs.YteimeeepcfcfcaaGreatDoor
set_option maxRecDepth 100000
set_option maxHeartbeats 2000000
set_option linter.unusedVariables false
set_option linter.unusedSimpArgs false
open Go Go.RowKit
theorem ncKept (k : Int) (h1 : 1 ≤ k) (h2 : k ≤ 18) (ar : Option Addr) (n c : Nat) (rs : List R4) (hl : rs.length = n) (hn : n ≤ 1000) (hrs : ∀ r ∈ rs, Ok4 r) (w : World) (hv : View w 4 ar n (rs.flatMap R4.cells)) (hw : Wds w) :
    Calls Tryz.prog 26 #[.int .i64 k, .slice ar n c] w (RowsGot w n (rs.flatMap (fun r => ((kd k).kept r).cells))) := by
  go_enter Tryz.func26, Tryz.ntmps26
  go_wp2
  go_loopw [5, 10] (fun v i wr => ∃ (j : Nat) (ao : Option Addr) (c' : Nat), j ≤ n ∧ i = .int .i64 j ∧ v = .slice ao j c' ∧ Row wr 71 4 ao j c' ((rs.take j).flatMap (fun r => ((kd k).kept r).cells)) ∧ Upd [] w wr ∧ In [] w.heap.size ao)
    (fun _ i _ => n - (intOf i).toNat)
  case atStart => exact ⟨0, none, 0, Nat.zero_le _, rfl, rfl, Row.nil, Upd.refl _ _, In.nil⟩
  case round =>
    obtain ⟨j, ao, c', hj, rfl, rfl, hR, hU, hI⟩ := hrel
    by_cases hlt : j < n
    · have hk0 : ((j : Int) < n) := by omega
      obtain ⟨bb, oo, rfl, hrr, hbb⟩ := (hv.upd hU (by simp)).at_ (by omega)
      obtain ⟨r, hx⟩ : ∃ r, r = rs[j]'(by omega) := ⟨_, rfl⟩
      have hcl := cells_at R4.cells 4 R4.cells_len hrr j (by omega)
      rw [← hx] at hcl
      have d0 := hcl 0 (by omega)
      have d1 := hcl 1 (by omega)
      have d2 := hcl 2 (by omega)
      have d3 := hcl 3 (by omega)
      have hok : Ok4 r := hrs r (by rw [hx]; exact List.getElem_mem _)
      have HX := Lib.hid hx
      clear hx hcl hrr
      simp only [R4.cells, Nat.add_zero, List.getElem?_cons_zero, List.getElem?_cons_succ] at d0 d1 d2 d3
      obtain ⟨k3, u3, s3⟩ := alloc_facts wr (Obj.cells #[.int .u64 r.a, .int .u64 r.b, .int .u64 r.c, .int .u64 r.d] 71)
      have r3 := rangeAt_blk (cs := r.cells) k3
      have hR3 := hR.upd u3 (by simp)
      have hnr := ncRow k h1 h2 r hok (wr.alloc (Obj.cells #[.int .u64 r.a, .int .u64 r.b, .int .u64 r.c, .int .u64 r.d] 71)) (hw.upd (hU.trans u3 (fun _ h => .inl h)))
      go_wp2_with (first
        | ((with_reducible show wpList _ _ _ _ _ _); refine wpList_load_mid rfl 71 (.tmp 7) rfl wr.heap.size 0 rfl r.cells _ r3 Tryz.underlying71 rfl (by kernel_rfl) ?_)
        | (go_at_call 43; (refine hnr.mono ?_); rintro e w4 ⟨rfl, hu4⟩; simp only [R4.agg])
        | (at_builtin; (refine wpList_app1 _ rfl _ _ 32 rfl 71 (.agg #[.int .u64 0, .int .u64 0, .int .u64 0, .int .u64 0]) 4 32 Tryz.underlying32 Tryz.info71 rfl (by decide) (hR3.upd hu4 (by simp)) rfl ((kd k).kept r).cells rfl rfl rfl (by simp [R4.cells, Value.oneCell']) (by decide) (by omega) ?_); intro ao1 c1 w5 hown1 hupd1 hin1))
      have hU4 : Upd [] w w4 := (hU.trans u3 (fun _ h => .inl h)).trans hu4 (fun _ h => .inl h)
      have hU5 : Upd [] w w5 := hU4.own hupd1 hI
      have hI5 : In [] w.heap.size ao1 := hI.step hin1 hU4.size
      have hR5 : Row w5 71 4 ao1 (j + 1) c1 ((rs.take (j + 1)).flatMap (fun r => ((kd k).kept r).cells)) := by
        rw [flatMap_take_succ _ _ _ (by omega), ← HX.out]
        exact hown1
      clear hown1 hR hR3
      go_roundw
      case rel => exact ⟨j + 1, ao1, c1, by omega, by go_num, rfl, hR5, hU5, hI5⟩
      case measure => simp [intOf]; omega
    · have hk0 : ¬ ((j : Int) < n) := by omega
      obtain rfl : j = n := by omega
      rw [List.take_of_length_le (by omega)] at hR
      go_wp2
      go_ret
      exact ⟨ao, c', rfl, hR, hU, hI⟩
theorem kept_len {R : Nat} {xs : List Rc} (hf : Fit R xs) : ∀ r ∈ xs.map keptR, r.length ≤ 1000 := fun r hr => by
  obtain ⟨x, hx, rfl⟩ := List.mem_map.1 hr
  have h1 := hf.rn x hx
  have h2 := hf.r1
  have h3 : (keptR x).length = x.rs.length := by simp [keptR]
  omega
/-- a slice that holds rows -/
def rowCell (x : List R4 × Option Addr × Nat) : List Value := [.slice x.2.1 x.1.length x.2.2]
theorem rowsV_of {w : World} {ao : Option Addr} (ws : List (List R4 × Option Addr × Nat)) (hv : View w 1 ao ws.length (ws.flatMap rowCell)) (hr : ∀ x ∈ ws, View w 4 x.2.1 x.1.length (x.1.flatMap R4.cells)) : RowsV w ao ws.length (ws.flatMap rowCell) (ws.map Prod.fst) := by
  refine ⟨hv, by rw [flatMap_len _ 1 (fun _ => rfl)]; omega, by simp, fun k hk => ⟨ws[k].2.1, ws[k].2.2, ?_, ?_⟩⟩
  · have h := flat_get rowCell 1 ws (fun _ _ => rfl) k hk 0 (by omega)
    simp only [Nat.mul_one, Nat.add_zero] at h
    rw [h]
    simp [rowCell]
  · have := hr ws[k] (List.getElem_mem _)
    simpa using this
/-- rows are given, column by column -/
def RowsSaid (n : Nat) (rss : List (List R4)) (e : Ending) (w : World) : Prop := ∃ ao c vs, e = .returned (.slice ao n c) ∧ RowsV w ao n vs rss
theorem bkRows (ar : Option Addr) (c : Nat) (xs : List Rc) (hf : Fit (rowsOf xs) xs) (w : World) (h : Rcs w ar xs) (hw : Wds w) :
    Calls Tryz.prog 14 #[.slice ar xs.length c] w fun e w' => RowsSaid xs.length (xs.map keptR) e w' ∧ Upd [] w w' := by
  obtain ⟨n, hnn⟩ : ∃ n, n = xs.length := ⟨_, rfl⟩
  have hv := h.view
  have hn5 := hf.n1
  rw [← hnn] at hv hn5 ⊢
  have HN := Lib.hid hnn
  clear hnn
  go_enter Tryz.func14, Tryz.ntmps14
  go_wp2
  go_loopw [3, 8] (fun v i wr => ∃ (j : Nat) (av : Option Addr) (cv : Nat) (ws : List (List R4 × Option Addr × Nat)), j ≤ n ∧ v = .slice av j cv ∧ i = .int .i64 j ∧ List.map Prod.fst ws = (xs.take j).map keptR ∧ Row wr 32 1 av j cv (ws.flatMap rowCell) ∧
      (∀ x ∈ ws, View wr 4 x.2.1 x.1.length (x.1.flatMap R4.cells) ∧ (∀ y, y ∈ bk x.2.1 → y ∉ bk av) ∧ ∀ y, y ∈ bk x.2.1 → y < wr.heap.size) ∧ Upd [] w wr ∧ In [] w.heap.size av)
    (fun _ i _ => n - (intOf i).toNat)
  case atStart => exact ⟨0, none, 0, [], Nat.zero_le _, rfl, rfl, rfl, Row.nil, by simp, Upd.refl _ _, In.nil⟩
  case round =>
    obtain ⟨j, av, cv, ws, hj, rfl, rfl, hws, hRv, hV, hU, hI⟩ := hrel
    by_cases hlt : j < n
    · have hk0 : ((j : Int) < n) := by omega
      have hkb : j < xs.length := by have := HN.out; omega
      obtain ⟨x, hx⟩ : ∃ x, x = xs[j] := ⟨_, rfl⟩
      have hxm : x ∈ xs := by rw [hx]; exact List.getElem_mem _
      obtain ⟨bb, oo, rfl, hrr, hbb⟩ := (hv.upd hU (by simp)).at_ (by omega)
      have hcl := cells_at Rc.cells 3 Rc.cells_len hrr j hkb
      rw [← hx] at hcl
      have d0 := hcl 0 (by omega)
      have d1 := hcl 1 (by omega)
      have d2 := hcl 2 (by omega)
      have hrow := (h.upd hU).rows x hxm
      have hrok := h.rok x hxm
      have hk18 := hf.k x hxm
      have hr20 : x.rs.length ≤ 20 := by have := hf.rn x hxm; have := hf.r1; omega
      have HX := Lib.hid hx
      clear hx hcl hrr
      simp only [Rc.cells, Nat.add_zero, List.getElem?_cons_zero, List.getElem?_cons_succ] at d0 d1 d2
      obtain ⟨k3, u3, s3⟩ := alloc_facts wr (Obj.cells #[Value.string x.nm, Value.int IntKind.i64 x.kind, Value.slice x.ar x.rs.length x.cp] 34)
      have n1 := (cellAt k3 1).trans rfl
      have n2 := (cellAt k3 2).trans rfl
      have hkp := ncKept x.kind hk18.1 hk18.2 x.ar x.rs.length x.cp x.rs rfl (by omega) hrok _ (hrow.upd u3 (by simp)) (hw.upd (hU.trans u3 (fun _ h => .inl h)))
      have hvl := hRv.lt
      go_wp2_with (first
        | (go_at_call 26; (refine hkp.mono ?_); rintro e w7 ⟨ao7, c7, rfl, hR7, hU7, hI7⟩)
        | (at_builtin; (refine wpList_app1 _ rfl _ _ 36 rfl 32 _ 1 24 Tryz.underlying36 Tryz.info32 rfl (by decide) (hRv.upd (u3.trans hU7 (fun _ h => .inl h)) (by simp)) rfl (rowCell (keptR x, ao7, c7)) (by simp [rowCell, keptR]) rfl rfl (by simp [rowCell, Value.oneCell']) (by decide) (by omega) ?_); intro av8 cv8 w8 hown8 hupd8 hin8))
      have hU37 : Upd [] wr w7 := u3.trans hU7 (fun _ h => .inl h)
      have hUw7 : Upd [] w w7 := hU.trans hU37 (fun _ h => .inl h)
      have hU8 : Upd [] w w8 := hUw7.own hupd8 hI
      have hI8 : In [] w.heap.size av8 := hI.step hin8 hUw7.size
      have hs37 := hU37.size
      have hs8 := hupd8.size
      have hr7 := hR7.lt
      have hn7 : ∀ y, y ∈ bk ao7 → wr.heap.size ≤ y := fun y hy => (hI7 y hy).elim (fun h => by simp at h) (fun h => by rw [s3] at h; omega)
      have hkl : (keptR x).length = x.rs.length := by simp [keptR]
      have hkc : (keptR x).flatMap R4.cells = x.rs.flatMap (fun r => ((kd x.kind).kept r).cells) := by simp [keptR, List.flatMap_map]
      have hV8 : ∀ z ∈ ws ++ [(keptR x, ao7, c7)], View w8 4 z.2.1 z.1.length (z.1.flatMap R4.cells) ∧ (∀ y, y ∈ bk z.2.1 → y ∉ bk av8) ∧ ∀ y, y ∈ bk z.2.1 → y < w8.heap.size := fun z hz => by
        rcases List.mem_append.1 hz with hz | hz
        · obtain ⟨g1, g2, g3⟩ := hV z hz
          refine ⟨(g1.upd hU37 (by simp)).upd hupd8 g2, fun y hy hy' => ?_, fun y hy => by have := g3 y hy; omega⟩
          rcases hin8 y hy' with h | h
          · exact g2 y hy h
          · have := g3 y hy; omega
        · simp at hz
          subst hz
          have hna : ∀ y, y ∈ bk ao7 → y ∉ bk av := fun y hy hy' => by
            have := hn7 y hy
            have := hvl y hy'
            omega
          refine ⟨?_, fun y hy hy' => ?_, fun y hy => by have := hr7 y hy; omega⟩
          · show View w8 4 ao7 (keptR x).length ((keptR x).flatMap R4.cells)
            rw [hkl, hkc]
            exact hR7.toView.upd hupd8 hna
          · have := hr7 y hy
            rcases hin8 y hy' with h | h
            · exact hna y hy h
            · omega
      have hRv8 : Row w8 32 1 av8 (j + 1) cv8 ((ws ++ [(keptR x, ao7, c7)]).flatMap rowCell) := by
        rw [List.flatMap_append, List.flatMap_singleton]
        exact hown8
      have hws8 : (ws ++ [(keptR x, ao7, c7)]).map Prod.fst = (xs.take (j + 1)).map keptR := by
        rw [List.take_succ_eq_append_getElem hkb, ← HX.out, List.map_append, List.map_append, hws]
        rfl
      clear hV hRv hown8
      go_roundw
      case rel => exact ⟨j + 1, av8, cv8, _, by omega, rfl, by go_num, hws8, hRv8, hV8, hU8, hI8⟩
      case measure => simp [intOf]; omega
    · have hk0 : ¬ ((j : Int) < n) := by omega
      obtain rfl : j = n := by omega
      have hfin : RowsV wr av j (ws.flatMap rowCell) (xs.map keptR) := by
        rw [List.take_of_length_le (by have := HN.out; omega)] at hws
        have hwl : ws.length = j := by
          rw [← List.length_map (f := Prod.fst), hws, List.length_map]
          exact HN.out.symm
        rw [← hws, ← hwl]
        exact rowsV_of ws (by rw [hwl]; exact hRv.toView) (fun x hx => (hV x hx).1)
      have HF := Lib.hid hfin
      clear hfin hV hRv
      go_wp2
      go_ret
      exact ⟨⟨av, cv, _, rfl, HF.out⟩, hU⟩
/-- the rows that are read of a block -/
theorem Decoded.rows {w : World} {hd : Value} {xs : List Rc} {left : Nat} {e : Ending} {w' : World} (h : Decoded w hd (xs.map Rc.bc) left e w') :
    ∃ ao c vs, e = .returned (.tuple #[hd, .slice ao xs.length c, .int .i64 left, .bool true]) ∧ RowsV w' ao xs.length vs (xs.map keptR) ∧ Upd [] w w' := by
  obtain ⟨ao, c, ws, h1, h2, h3, h4, h5, _⟩ := h
  rw [List.length_map] at h2 h3
  have hwl : ws.length = xs.length := by rw [← List.length_map (f := Prod.fst), h1, List.length_map]
  refine ⟨ao, c, (ws.map (fun x => ((x.1.rs.map x.1.K.kept : List R4), x.2))).flatMap rowCell, h2, ?_, h5⟩
  have hm : (ws.map (fun x => ((x.1.rs.map x.1.K.kept : List R4), x.2))).map Prod.fst = xs.map keptR := by
    rw [List.map_map]
    have : (Prod.fst ∘ fun x : Bc × Option Addr × Nat => ((x.1.rs.map x.1.K.kept : List R4), x.2)) = (fun b : Bc => b.rs.map b.K.kept) ∘ Prod.fst := rfl
    rw [this, ← List.map_map, h1, List.map_map]
    rfl
  have hc : (ws.map (fun x => ((x.1.rs.map x.1.K.kept : List R4), x.2))).flatMap rowCell = ws.flatMap rowCells := by
    rw [List.flatMap_map]
    congr 1
    funext x
    simp [rowCell, rowCells]
  have := rowsV_of (w := w') (ao := ao) (ws.map (fun x => ((x.1.rs.map x.1.K.kept : List R4), x.2))) (by rw [hc, List.length_map, hwl]; exact h3.toView) (fun x hx => by
    obtain ⟨y, hy, rfl⟩ := List.mem_map.1 hx
    have := (h4 y hy).1
    simpa [keptV, List.flatMap_map] using this)
  rw [hm, List.length_map, hwl] at this
  exact this
end Go.Proofs.YteimeeepcfcfcaaGreatDoor
