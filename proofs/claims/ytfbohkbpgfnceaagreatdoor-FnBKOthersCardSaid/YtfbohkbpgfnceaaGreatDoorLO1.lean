/- Columns of which one is another. -/
import Derived.Test.YtfbohkbpgfnceaaGreatDoorFY
import Derived.Test.YtfbohkbpgfnceaaGreatDoorLR
namespace Go.Proofs.YtfbohkbpgfnceaaGreatDoor
set_option linter.unusedVariables false
set_option linter.unusedSimpArgs false
open Go Go.RowKit
theorem flat_set {α : Type} (f : α → List Value) (m : Nat) (hf : ∀ a, (f a).length = m) : ∀ (l : List α) (i : Nat) (hi : i < l.length) (y : α) (j : Nat) (_ : j < m) (u : Value), f y = (f l[i]).set j u → (l.set i y).flatMap f = (l.flatMap f).set (i * m + j) u
  | [], i, hi, y, j, _, u, _ => by simp at hi
  | a :: l, 0, _, y, j, hj, u, h => by
    simp only [List.getElem_cons_zero] at h
    simp only [List.set_cons_zero, List.flatMap_cons, Nat.zero_mul, Nat.zero_add]
    rw [h, List.set_append_left _ _ (by rw [hf]; exact hj)]
  | a :: l, i + 1, hi, y, j, hj, u, h => by
    simp only [List.getElem_cons_succ] at h
    simp only [List.set_cons_succ, List.flatMap_cons]
    rw [flat_set f m hf l i (by simpa using hi) y j hj u h, List.set_append_right _ _ (by rw [hf, Nat.add_mul]; omega)]
    congr 2
    rw [hf, Nat.add_mul]
    omega
/-- another column in the place of one -/
structure Alt (xs : List Rc) (i : Nat) (hi : i < xs.length) (x : Rc) : Prop where
  rs : x.rs = xs[i].rs
  k : 1 ≤ x.kind ∧ x.kind ≤ 18
  nm : 0 < x.nm.size ∧ x.nm.size ≤ 40
theorem colV_eq (v : Int) (b : Bc) (rest : List Value) : colV v b ++ rest = strV b.nm ++ (strV b.K.name ++ (flagV v ++ (b.rs.flatMap b.K.bytes ++ rest))) := by simp [colV, headV_eq]
set_option maxHeartbeats 400000 in
theorem BKDecode_alt (ov : Bool) (b v : Int) (hb : -2147483648 ≤ b ∧ b < 2147483648) (d N c : Nat) (ac : Option Addr) (cc : Nat) (xs : List Rc) (hf : Fit (rowsOf xs) xs) (hrok : ∀ x ∈ xs, ∀ r ∈ x.rs, Ok4 r) (i : Nat) (hi : i < xs.length) (x' : Rc) (ha : Alt xs i hi x')
    (hbad : ∀ rest, Bad v x'.bc (colV v xs[i].bc ++ rest)) (w : World) (hcv : View w 3 ac xs.length ((xs.set i x').flatMap Rc.cells)) (hr : w.rangeAt d 0 (blkB v ov b (rowsOf xs) (xs.map Rc.bc))) (hN : N = (blkB v ov b (rowsOf xs) (xs.map Rc.bc)).length) (hNc : N ≤ c) (hdl : d < w.heap.size) :
    Calls Tryz.prog 10 #[.slice (some ⟨d, 0, none⟩) N c, .int .i64 v, .slice ac xs.length cc] w (NotRead w) := by
  have hmem : ∀ y ∈ xs.set i x', y ∈ xs ∨ y = x' := fun y hy => List.mem_or_eq_of_mem_set hy
  have hxi : xs[i] ∈ xs := List.getElem_mem _
  have hk : ∀ y ∈ xs.set i x', 1 ≤ y.kind ∧ y.kind ≤ 18 := fun y hy => (hmem y hy).elim (hf.k y) (fun e => by rw [e]; exact ha.k)
  have hrl : ∀ y ∈ xs.set i x', y.rs.length = rowsOf xs := fun y hy => (hmem y hy).elim (hf.rn y) (fun e => by rw [e, ha.rs]; exact hf.rn _ hxi)
  have hro : ∀ y ∈ xs.set i x', ∀ r ∈ y.rs, Ok4 r := fun y hy => (hmem y hy).elim (hrok y) (fun e => by rw [e, ha.rs]; exact hrok _ hxi)
  have hnm : ∀ y ∈ xs.set i x', 0 < y.nm.size ∧ y.nm.size ≤ 40 := fun y hy => (hmem y hy).elim (fun h => ⟨(hf.nm y h).1, by have := (hf.nm y h).2; omega⟩) (fun e => by rw [e]; exact ha.nm)
  have h5 := hf.n1
  have h0 := hf.r0
  have h1 := hf.r1
  have hlen : ((xs.set i x').map Rc.bc).length = xs.length := by rw [List.length_map, List.length_set]
  have hok : ∀ y ∈ (xs.set i x').map Rc.bc, OkB y := fun y hy => by
    obtain ⟨z, hz, rfl⟩ := List.mem_map.1 hy
    have := hrl z hz
    exact ⟨(kd_ok _ (hk z hz).1 (hk z hz).2).1, hro z hz, by show 0 < z.rs.length; omega, by show z.rs.length ≤ 20; omega, by show z.nm.size ≤ 40; exact (hnm z hz).2⟩
  have hrn : ∀ y ∈ (xs.set i x').map Rc.bc, y.rs.length = rowsOf xs := fun y hy => by
    obtain ⟨z, hz, rfl⟩ := List.mem_map.1 hy
    exact hrl z hz
  have hn0 : ∀ y ∈ (xs.set i x').map Rc.bc, 0 < y.nm.size := fun y hy => by
    obtain ⟨z, hz, rfl⟩ := List.mem_map.1 hy
    exact (hnm z hz).1
  have hib : i < ((xs.set i x').map Rc.bc).length := by rw [hlen]; exact hi
  have hit : ((xs.set i x').map Rc.bc)[i] = x'.bc := by simp
  have htk : ((xs.set i x').map Rc.bc).take i = (xs.map Rc.bc).take i := by rw [← List.map_take, ← List.map_take, List.take_set_of_le (Nat.le_refl i)]
  have hbody : bodyV v (xs.map Rc.bc) = bodyV v ((xs.map Rc.bc).take i) ++ (colV v xs[i].bc ++ bodyV v ((xs.map Rc.bc).drop (i + 1))) := by
    have hsplit : xs.map Rc.bc = (xs.map Rc.bc).take i ++ xs[i].bc :: (xs.map Rc.bc).drop (i + 1) := by
      have h2 := List.drop_eq_getElem_cons (l := xs.map Rc.bc) (i := i) (by rw [List.length_map]; exact hi)
      rw [List.getElem_map] at h2
      rw [← h2, List.take_append_drop]
    conv => lhs; rw [hsplit]
    simp [bodyV]
  have hblk : blkB v ov b (rowsOf xs) (xs.map Rc.bc) = preV v ov b ++ (.int .u8 ((xs.set i x').map Rc.bc).length :: .int .u8 (rowsOf xs) :: (bodyV v (((xs.set i x').map Rc.bc).take i) ++ (colV v xs[i].bc ++ bodyV v ((xs.map Rc.bc).drop (i + 1))))) := by
    rw [blkB_eq, hbody, htk, hlen, List.length_map]
  have hall := blkB_bytes (v := v) (ov := ov) (b := b) (R := rowsOf xs) (bs := xs.map Rc.bc) (hf.okB hrok) (by rw [List.length_map]; omega) h1
  rw [hblk] at hr hN hall
  have hcv' : View w 3 ac ((xs.set i x').map Rc.bc).length (((xs.set i x').map Rc.bc).flatMap Bc.cells) := by
    rw [bc_cells hk, hlen]
    exact hcv
  have hB := BKDecode_bad ov b v hb (rowsOf xs) h0 h1 d 0 N c ac cc ((xs.set i x').map Rc.bc) (by rw [hlen]; omega) hok hrn hn0 i hib (colV v xs[i].bc ++ bodyV v ((xs.map Rc.bc).drop (i + 1))) (by rw [hit]; exact hbad _) w hcv' hr hN hNc hall hdl
  rw [hlen] at hB
  exact hB
/-- another name -/
theorem bad_name {v : Int} {x x' : Rc} (h : x.nm ≠ x'.nm) (h1 : 0 < x.nm.size ∧ x.nm.size ≤ 30) (hk : 1 ≤ x.kind ∧ x.kind ≤ 18) (rest : List Value) : Bad v x'.bc (colV v x.bc ++ rest) :=
  .inr (.inr (.inr (.inr (.inl ⟨x.nm, x.bc.K.name, _, h, ⟨h1.1, by omega⟩, name128 _ hk.1 hk.2, colV_eq v x.bc rest⟩))))
/-- another type -/
theorem bad_type {v : Int} {x x' : Rc} (h : x'.nm = x.nm) (hk : 1 ≤ x.kind ∧ x.kind ≤ 18) (hc : Clash (kd x.kind).name (kd x'.kind).name) (rest : List Value) : Bad v x'.bc (colV v x.bc ++ rest) :=
  .inr (.inr (.inr (.inr (.inr ⟨x.bc.K.name, _, hc, name128 _ hk.1 hk.2, by rw [colV_eq v x.bc rest]; show strV x.nm ++ _ = strV x'.nm ++ _; rw [h]⟩))))
/-- one fewer, one more -/
theorem BKDecode_other (ov : Bool) (b v : Int) (hb : -2147483648 ≤ b ∧ b < 2147483648) (d N c : Nat) (ac : Option Addr) (cc : Nat) (xs : List Rc) (hf : Fit (rowsOf xs) xs) (hrok : ∀ x ∈ xs, ∀ r ∈ x.rs, Ok4 r) (ys : List Rc) (hne : xs.length ≠ ys.length) (hy : ys.length ≤ 10) (hyk : ∀ y ∈ ys, 1 ≤ y.kind ∧ y.kind ≤ 18)
    (w : World) (hcv : View w 3 ac ys.length (ys.flatMap Rc.cells)) (hr : w.rangeAt d 0 (blkB v ov b (rowsOf xs) (xs.map Rc.bc))) (hN : N = (blkB v ov b (rowsOf xs) (xs.map Rc.bc)).length) (hNc : N ≤ c) (hdl : d < w.heap.size) :
    Calls Tryz.prog 10 #[.slice (some ⟨d, 0, none⟩) N c, .int .i64 v, .slice ac ys.length cc] w (NotRead w) := by
  have h5 := hf.n1
  have h1 := hf.r1
  have hall := blkB_bytes (v := v) (ov := ov) (b := b) (R := rowsOf xs) (bs := xs.map Rc.bc) (hf.okB hrok) (by rw [List.length_map]; omega) h1
  rw [blkB_eq] at hr hN hall
  have hlen : (ys.map Rc.bc).length = ys.length := List.length_map _
  have hB := BKDecode_many ov b v hb (xs.map Rc.bc).length (rowsOf xs) (by rw [List.length_map]; omega) hf.r0 h1 (bodyV v (xs.map Rc.bc)) d 0 N c ac cc (ys.map Rc.bc) (by rw [hlen]; exact hy) (by rw [hlen, List.length_map]; exact hne) (fun y hy => by
    obtain ⟨z, hz, rfl⟩ := List.mem_map.1 hy
    exact (kd_ok _ (hyk z hz).1 (hyk z hz).2).1) w (by rw [bc_cells hyk, hlen]; exact hcv) hr hN hNc hall hdl
  rw [hlen] at hB
  exact hB
end Go.Proofs.YtfbohkbpgfnceaaGreatDoor
