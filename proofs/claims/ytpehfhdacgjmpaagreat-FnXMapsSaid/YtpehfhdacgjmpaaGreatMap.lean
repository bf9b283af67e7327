/- Maps of strings: AppendKV, EncodeColumn, Prepare, encoded. -/
import Derived.Test.YtpehfhdacgjmpaaGreatNullIn
namespace Go.Proofs.YtpehfhdacgjmpaaGreat
open Go Go.RowKit
/-- the variable q holds a map's columns: where each row ends, the keys, the values -/
structure MapAt (w : World) (q : Nat) (ao : Option Addr) (c p r : Nat) (Fp Fr : List Nat) (ends : List Int) (ks vs : List (List Value)) : Prop where
  o : HoldT w q 329 26 [.iface 87 (.pointer (some ⟨p, 0, none⟩)), .iface 87 (.pointer (some ⟨r, 0, none⟩))] 1 ao ends.length c (ends.map (Value.int .u64))
  k : StrCol w p Fp ks
  v : StrCol w r Fr vs
  qp : q ∉ Fp
  qr : q ∉ Fr
  op : ∀ x, x ∈ bk ao → x ∉ Fp
  or : ∀ x, x ∈ bk ao → x ∉ Fr
  pr : ∀ x, x ∈ Fp → x ∉ Fr
def MapCol (w : World) (q : Nat) (F : List Nat) (ends : List Int) (ks vs : List (List Value)) : Prop :=
  ∃ ao c p r Fp Fr, MapAt w q ao c p r Fp Fr ends ks vs ∧ q ∈ F ∧ (∀ x, x ∈ bk ao → x ∈ F) ∧ (∀ x, x ∈ Fp → x ∈ F) ∧ (∀ x, x ∈ Fr → x ∈ F) ∧ ∀ x, x ∈ F → x < w.heap.size
theorem MapCol.kept {w w1 : World} {q : Nat} {F G : List Nat} {ends : List Int} {ks vs : List (List Value)} (h : MapCol w q F ends ks vs) (hu : Upd G w w1) (hG : ∀ x, x ∈ F → x ∉ G) : MapCol w1 q F ends ks vs := by
  obtain ⟨ao, c, p, r, Fp, Fr, hA, h1, h2, h3, h4, h5⟩ := h
  exact ⟨ao, c, p, r, Fp, Fr, ⟨hA.o.kept hu (hG q h1) (fun x hx => hG x (h2 x hx)), hA.k.kept hu (fun x hx => hG x (h3 x hx)), hA.v.kept hu (fun x hx => hG x (h4 x hx)), hA.qp, hA.qr, hA.op, hA.or, hA.pr⟩, h1, h2, h3, h4, fun x hx => Nat.lt_of_lt_of_le (h5 x hx) hu.size⟩
theorem MapCol.lt {w : World} {q : Nat} {F : List Nat} {ends : List Int} {ks vs : List (List Value)} (h : MapCol w q F ends ks vs) : ∀ x, x ∈ F → x < w.heap.size := by
  obtain ⟨_, _, _, _, _, _, _, _, _, _, _, h5⟩ := h; exact h5
def keys_of (ps : List (ByteArray × ByteArray)) : List (List Value) := ps.map fun p => byteCells p.1
def vals_of (ps : List (ByteArray × ByteArray)) : List (List Value) := ps.map fun p => byteCells p.2
/-- short pairs -/
def PairsOk (ps : List (ByteArray × ByteArray)) : Prop := ∀ p ∈ ps, p.1.size ≤ 100 ∧ p.2.size ≤ 100
theorem keys_tot (ps : List (ByteArray × ByteArray)) (h : PairsOk ps) : tot (keys_of ps) ≤ ps.length * 100 := by
  have := tot_le (ps.map (·.1)) 100 (fun s hs => by obtain ⟨x, hx, rfl⟩ := List.mem_map.1 hs; exact (h x hx).1)
  simpa [keys_of, Function.comp_def] using this
theorem vals_tot (ps : List (ByteArray × ByteArray)) (h : PairsOk ps) : tot (vals_of ps) ≤ ps.length * 100 := by
  have := tot_le (ps.map (·.2)) 100 (fun s hs => by obtain ⟨x, hx, rfl⟩ := List.mem_map.1 hs; exact (h x hx).2)
  simpa [vals_of, Function.comp_def] using this
theorem keys_short (ps : List (ByteArray × ByteArray)) (h : PairsOk ps) : Short (keys_of ps) := fun t ht => by
  obtain ⟨s, hs, rfl⟩ := List.mem_map.1 ht
  have h1 := (h s hs).1
  exact ⟨by rw [byteCells_len]; omega, (byteCells_all s.1).one⟩
theorem vals_short (ps : List (ByteArray × ByteArray)) (h : PairsOk ps) : Short (vals_of ps) := fun t ht => by
  obtain ⟨s, hs, rfl⟩ := List.mem_map.1 ht
  have h1 := (h s hs).2
  exact ⟨by rw [byteCells_len]; omega, (byteCells_all s.2).one⟩
theorem tot_app (a b : List (List Value)) : tot (a ++ b) = tot a + tot b := by simp only [tot, List.flatMap_append, List.length_append]

set_option maxRecDepth 100000 in
set_option maxHeartbeats 2000000 in
theorem AppendKV (q : Nat) (F : List Nat) (ends : List Int) (ks vs : List (List Value)) (av : Option Addr) (n c : Nat) (ps : List (ByteArray × ByteArray)) (w : World) (h : MapCol w q F ends ks vs) (hv : View w 2 av n (ps.flatMap cells_M)) (hav : 0 < n → ∀ x, x ∈ bk av → x ∉ F)
    (hn : n ≤ 100) (hps : PairsOk ps) (hk : ks.length ≤ 1000) (hkt : tot ks ≤ 100000) (hvl : vs.length ≤ 1000) (hvt : tot vs ≤ 100000) (he : ends.length ≤ 1000) :
    Calls Tryz.prog 53 #[.pointer (some ⟨q, 0, none⟩), .slice av n c] w fun e w' => e = .returned (.tuple #[]) ∧ ∃ F', MapCol w' q F' (ends ++ [((ks.length + n : Nat) : Int)]) (ks ++ keys_of ps) (vs ++ vals_of ps) ∧ Upd F w w' ∧ Grows w.heap.size F F' := by
  have hml : ps.length = n := by have := hv.len; rw [flatMap_len _ 2 cells_M_len] at this; omega
  obtain ⟨ao, co, p, r, Fp, Fr, hA, hqF, haF, hpF, hrF, hlt⟩ := h
  have hq1 := hA.qp
  have hq2 := hA.qr
  go_enter Tryz.func53, Tryz.ntmps53
  go_wp2
  go_loopw [8] (fun i wr => ∃ (k : Nat) (Fp' Fr' : List Nat), k ≤ n ∧ i = .int .i64 k ∧ MapAt wr q ao co p r Fp' Fr' ends (ks ++ keys_of (ps.take k)) (vs ++ vals_of (ps.take k)) ∧ Upd F w wr ∧ Grows w.heap.size Fp Fp' ∧ Grows w.heap.size Fr Fr')
    (fun i _ => n - (intOf i).toNat)
  case atStart => exact ⟨0, Fp, Fr, Nat.zero_le _, rfl, by simpa [keys_of, vals_of] using hA, Upd.refl _ _, fun x hx => .inl hx, fun x hx => .inl hx⟩
  case round =>
    obtain ⟨k, Fp', Fr', hkn, rfl, hM, hU, hGp, hGr⟩ := hrel
    have b0 : (ps.take k).length ≤ 100 := by rw [List.length_take]; omega
    have hpk : PairsOk (ps.take k) := fun x hx => hps x (List.mem_of_mem_take hx)
    have b1 : (ks ++ keys_of (ps.take k)).length ≤ 1100 := by simp only [keys_of, List.length_append, List.length_map]; omega
    have b2 : (vs ++ vals_of (ps.take k)).length ≤ 1100 := by simp only [vals_of, List.length_append, List.length_map]; omega
    have b3 : tot (ks ++ keys_of (ps.take k)) ≤ 110000 := by
      have h1 := keys_tot _ hpk
      have h2 := Nat.mul_le_mul_right 100 b0
      rw [tot_app]; omega
    have b4 : tot (vs ++ vals_of (ps.take k)) ≤ 110000 := by
      have h1 := vals_tot _ hpk
      have h2 := Nat.mul_le_mul_right 100 b0
      rw [tot_app]; omega
    have hlk : (ks ++ keys_of (ps.take k)).length = ks.length + k := by simp only [keys_of, List.length_append, List.length_map, List.length_take]; omega
    by_cases hltk : k < n
    · have hk0 : ((k : Int) < n) := by omega
      obtain ⟨b, o, rfl, hrr, hbb⟩ := hv.at_ (by omega)
      have hbF : b ∉ F := hav (by omega) b (by simp)
      obtain ⟨m, hmm⟩ : ∃ m, m = ps[k]'(by omega) := ⟨_, rfl⟩
      obtain ⟨d0, d1⟩ := two_M hrr hbb hU hbF k hltk hml hmm
      have hsm := hps m (by rw [hmm]; exact List.getElem_mem _)
      have e1 : ks ++ keys_of (ps.take (k + 1)) = ks ++ keys_of (ps.take k) ++ [byteCells m.1] := by rw [List.take_succ_eq_append_getElem (by omega), ← hmm]; simp [keys_of]
      have e2 : vs ++ vals_of (ps.take (k + 1)) = vs ++ vals_of (ps.take k) ++ [byteCells m.2] := by rw [List.take_succ_eq_append_getElem (by omega), ← hmm]; simp [vals_of]
      obtain ⟨K0, hK0⟩ : ∃ K0, K0 = ks ++ keys_of (ps.take k) := ⟨_, rfl⟩
      obtain ⟨V0, hV0⟩ : ∃ V0, V0 = vs ++ vals_of (ps.take k) := ⟨_, rfl⟩
      rw [← hK0] at b1 b3 hM e1
      rw [← hV0] at b2 b4 hM e2
      have E1 := Lib.hid e1
      have E2 := Lib.hid e2
      clear hmm e1 e2 hK0 hV0 hlk b0 hpk
      obtain ⟨mk, mv⟩ := m
      simp only at d0 d1 hsm
      have hmp := methT_S p
      have hmr := methT_S r
      obtain ⟨k5, u5, s5⟩ := alloc_facts wr (Obj.cells #[.string mk, .string mv] 111)
      have hO5 := hM.o.kept u5 (by simp) (by simp)
      have hK5 := hM.k.kept u5 (by simp)
      have hV5 := hM.v.kept u5 (by simp)
      have hpl := hM.k.lt
      have hrl := hM.v.lt
      go_wp2
      generalize wr.alloc (Obj.cells #[.string mk, .string mv] 111) = W at *
      have c1 := hO5.cellN 0 (v := .iface 87 (.pointer (some ⟨p, 0, none⟩))) rfl
      have c5 : W.cell? ⟨wr.heap.size, 0, none⟩ = some (.string mk) := by simp only [World.cell?, k5]; rfl
      refine wp_region_split (S := Upd [] W) [(true, 0), (true, 1), (true, 2), (true, 3), (true, 4), (true, 5)] [] [6] (by kernel_rfl) (by kernel_rfl) (fun _ _ d _ _ h => by cases d <;> exact h) ((Upd.refl _ _).drew) ?_
      simp only [readsAt, opersAt, Option.map_some, List.filterMap_cons, List.filterMap_nil, List.getElem?_toArray, List.getElem?_cons_succ, List.getElem?_cons_zero]
      refine ⟨_, Or.inl ⟨by rfl, fun w' hS => by first | (go_simp; done) | (go_simp; with_reducible rfl)⟩, ?_⟩
      simp only [Act.put, List.setIfInBounds_toArray, List.set_cons_zero, List.set_cons_succ]
      refine ⟨_, Or.inl ⟨by rfl, fun w' hS => by first | (go_simp; done) | (go_simp; with_reducible rfl)⟩, ?_⟩
      simp only [Act.put, List.setIfInBounds_toArray, List.set_cons_zero, List.set_cons_succ]
      refine ⟨_, Or.inl ⟨by rfl, fun w' hS => by first | (go_simp; done) | (go_simp; with_reducible rfl)⟩, ?_⟩
      simp only [Act.put, List.setIfInBounds_toArray, List.set_cons_zero, List.set_cons_succ]
      refine ⟨_, Or.inl ⟨by rfl, fun w' hS => by have e0 := Upd.cell1 hS c1 (by simp); have e1 := Upd.cell1 hS c5 (by simp); first | (go_simp; done) | (go_simp; with_reducible rfl)⟩, ?_⟩
      simp only [Act.put, List.setIfInBounds_toArray, List.set_cons_zero, List.set_cons_succ]
      refine ⟨_, Or.inl ⟨by rfl, fun w' hS => by first | (go_simp; done) | (go_simp; with_reducible rfl)⟩, ?_⟩
      simp only [Act.put, List.setIfInBounds_toArray, List.set_cons_zero, List.set_cons_succ]
      refine ⟨_, Or.inl ⟨by rfl, fun w' hS => by have e0 := Upd.cell1 hS c1 (by simp); have e1 := Upd.cell1 hS c5 (by simp); first | (go_simp; done) | (go_simp; with_reducible rfl)⟩, ?_⟩
      simp only [Act.put, List.setIfInBounds_toArray, List.set_cons_zero, List.set_cons_succ]
      simp only [readsThen, preThen]
      change wpList _ _ _ [_] _ _
      go_wp2_with (go_at_call 104; (with_reducible refine (ColStr_Append p Fp' _ _ _ (hK5.kept ((Upd.refl [] W).drew) (by simp)) (by omega) (by omega) (by omega)).mono ?_); rintro e w6 ⟨rfl, Fp2, hK6, hU6, hG6⟩)
      have hU6' : Upd Fp' W w6 := hU6.ofDrew
      have hqp' : q ∉ Fp' := hM.qp
      have hO6 := hO5.kept hU6' hM.qp hM.op
      have hV6 := hV5.kept hU6' (fun x hx hx' => hM.pr x hx' hx)
      have k6 := hU6'.at k5 (fun hx => by have := hpl _ hx; omega)
      have c2 := hO6.cellN 1 (v := .iface 87 (.pointer (some ⟨r, 0, none⟩))) rfl
      have c6 : w6.cell? ⟨wr.heap.size, 1, none⟩ = some (.string mv) := by simp only [World.cell?, k6]; rfl
      refine wp_region_split (S := Upd [] w6) [(true, 0), (true, 1), (true, 2), (true, 3), (true, 4), (true, 5)] [] [6] (by kernel_rfl) (by kernel_rfl) (fun _ _ d _ _ h => by cases d <;> exact h) ((Upd.refl _ _).drew) ?_
      simp only [readsAt, opersAt, Option.map_some, List.filterMap_cons, List.filterMap_nil, List.getElem?_toArray, List.getElem?_cons_succ, List.getElem?_cons_zero]
      refine ⟨_, Or.inl ⟨by rfl, fun w' hS => by first | (go_simp; done) | (go_simp; with_reducible rfl)⟩, ?_⟩
      simp only [Act.put, List.setIfInBounds_toArray, List.set_cons_zero, List.set_cons_succ]
      refine ⟨_, Or.inl ⟨by rfl, fun w' hS => by first | (go_simp; done) | (go_simp; with_reducible rfl)⟩, ?_⟩
      simp only [Act.put, List.setIfInBounds_toArray, List.set_cons_zero, List.set_cons_succ]
      refine ⟨_, Or.inl ⟨by rfl, fun w' hS => by first | (go_simp; done) | (go_simp; with_reducible rfl)⟩, ?_⟩
      simp only [Act.put, List.setIfInBounds_toArray, List.set_cons_zero, List.set_cons_succ]
      refine ⟨_, Or.inl ⟨by rfl, fun w' hS => by have e0 := Upd.cell1 hS c2 (by simp); have e1 := Upd.cell1 hS c6 (by simp); first | (go_simp; done) | (go_simp; with_reducible rfl)⟩, ?_⟩
      simp only [Act.put, List.setIfInBounds_toArray, List.set_cons_zero, List.set_cons_succ]
      refine ⟨_, Or.inl ⟨by rfl, fun w' hS => by first | (go_simp; done) | (go_simp; with_reducible rfl)⟩, ?_⟩
      simp only [Act.put, List.setIfInBounds_toArray, List.set_cons_zero, List.set_cons_succ]
      refine ⟨_, Or.inl ⟨by rfl, fun w' hS => by have e0 := Upd.cell1 hS c2 (by simp); have e1 := Upd.cell1 hS c6 (by simp); first | (go_simp; done) | (go_simp; with_reducible rfl)⟩, ?_⟩
      simp only [Act.put, List.setIfInBounds_toArray, List.set_cons_zero, List.set_cons_succ]
      simp only [readsThen, preThen]
      change wpList _ _ _ [_] _ _
      go_wp2_with (go_at_call 104; (with_reducible refine (ColStr_Append r Fr' _ _ _ (hV6.kept ((Upd.refl [] w6).drew) (by simp)) (by omega) (by omega) (by omega)).mono ?_); rintro e w7 ⟨rfl, Fr2, hV7, hU7, hG7⟩)
      have hU7' : Upd Fr' w6 w7 := hU7.ofDrew
      have hFp2 : ∀ x, x ∈ Fp2 → x ∈ Fp' ∨ W.heap.size ≤ x := fun x hx => by simpa using hG6 x hx
      have hFr2 : ∀ x, x ∈ Fr2 → x ∈ Fr' ∨ w6.heap.size ≤ x := fun x hx => by simpa using hG7 x hx
      have hK7 := hK6.kept hU7' (fun x hx hx' => (hFp2 x hx).elim (fun h => hM.pr x h hx') (fun h => by have := hrl x hx'; have := u5.size; omega))
      have hO7 := hO6.kept hU7' hM.qr hM.or
      have hql := hO5.lt
      have hal := hO5.bk_lt
      have hpl2 := hK6.lt
      have hM7 : MapAt w7 q ao co p r Fp2 Fr2 ends (ks ++ keys_of (ps.take (k + 1))) (vs ++ vals_of (ps.take (k + 1))) := by
        rw [E1.out, E2.out]
        refine ⟨hO7, hK7, hV7, fun hx => (hFp2 q hx).elim hM.qp (fun h => by omega), fun hx => (hFr2 q hx).elim hM.qr (fun h => by have := hU6'.size; omega), fun x hx hx' => (hFp2 x hx').elim (hM.op x hx) (fun h => by have := hal x hx; omega),
          fun x hx hx' => (hFr2 x hx').elim (hM.or x hx) (fun h => by have := hal x hx; have := hU6'.size; omega), fun x hx hx' => ?_⟩
        rcases hFr2 x hx' with h | h
        · rcases hFp2 x hx with h' | h'
          · exact hM.pr x h' h
          · have := hrl x h; have := u5.size; omega
        · have := hpl2 x hx; omega
      have hUx : Upd F w w7 := ((hU.trans u5 (by simp)).trans hU6' (fun x hx => (hGp x hx).imp (hpF x) id)).trans hU7' (fun x hx => (hGr x hx).imp (hrF x) id)
      have hGpx : Grows w.heap.size Fp Fp2 := fun x hx => (hFp2 x hx).elim (hGp x) (fun h => .inr (by have := hU.size; have := u5.size; omega))
      have hGrx : Grows w.heap.size Fr Fr2 := fun x hx => (hFr2 x hx).elim (hGr x) (fun h => .inr (by have := hU.size; have := u5.size; have := hU6'.size; omega))
      clear hK6 hU6 hG6 hV7 hU7 hG7 hK7 hO7 hM hU hGp hGr hO5 hK5 hV5 hO6 hV6 hFp2 hFr2 k5 k6 c1 c2 c5 c6 hU6' hU7' u5
      go_roundw
      case rel => exact ⟨k + 1, Fp2, Fr2, by omega, by go_num, hM7, hUx, hGpx, hGrx⟩
      case measure => simp [intOf]; omega
    · have hk0 : n ≤ k := by omega
      obtain rfl : k = n := by omega
      rw [List.take_of_length_le (by omega)] at hM b1 hlk
      obtain ⟨K0, hK0⟩ : ∃ K0, K0 = ks ++ keys_of ps := ⟨_, rfl⟩
      rw [← hK0] at hM b1 hlk
      have HK := Lib.hid hK0
      clear b0 b2 b3 b4 hpk hK0
      have c1 := hM.o.cellN 0 (v := .iface 87 (.pointer (some ⟨p, 0, none⟩))) rfl
      have hKd := hM.k.kept ((Upd.refl [] wr).drew) (by simp)
      obtain ⟨ab, nb, cb, ap, cp, hld⟩ := hKd.load
      have hmR := methR_S p _ _ hld
      go_wp2
      refine wp_region_split (S := Upd [] wr) [(false, 0), (false, 1), (false, 2), (true, 3), (true, 4), (true, 5), (true, 6)] [] [7, 8, 9] (by kernel_rfl) (by kernel_rfl) (fun _ _ d _ _ h => by cases d <;> exact h) ((Upd.refl _ _).drew) ?_
      simp only [readsAt, opersAt, Option.map_some, List.filterMap_cons, List.filterMap_nil, List.getElem?_toArray, List.getElem?_cons_succ, List.getElem?_cons_zero]
      refine ⟨_, Or.inl ⟨by rfl, fun w' hS => by first | (go_simp; done) | (go_simp; with_reducible rfl)⟩, ?_⟩
      simp only [Act.put, List.setIfInBounds_toArray, List.set_cons_zero, List.set_cons_succ]
      refine ⟨_, Or.inl ⟨by rfl, fun w' hS => by first | (go_simp; done) | (go_simp; with_reducible rfl)⟩, ?_⟩
      simp only [Act.put, List.setIfInBounds_toArray, List.set_cons_zero, List.set_cons_succ]
      refine ⟨_, Or.inl ⟨by rfl, fun w' hS => by first | (go_simp; done) | (go_simp; with_reducible rfl)⟩, ?_⟩
      simp only [Act.put, List.setIfInBounds_toArray, List.set_cons_zero, List.set_cons_succ]
      refine ⟨_, Or.inl ⟨by rfl, fun w' hS => by first | (go_simp; done) | (go_simp; with_reducible rfl)⟩, ?_⟩
      simp only [Act.put, List.setIfInBounds_toArray, List.set_cons_zero, List.set_cons_succ]
      refine ⟨_, Or.inl ⟨by rfl, fun w' hS => by first | (go_simp; done) | (go_simp; with_reducible rfl)⟩, ?_⟩
      simp only [Act.put, List.setIfInBounds_toArray, List.set_cons_zero, List.set_cons_succ]
      refine ⟨_, Or.inl ⟨by rfl, fun w' hS => by first | (go_simp; done) | (go_simp; with_reducible rfl)⟩, ?_⟩
      simp only [Act.put, List.setIfInBounds_toArray, List.set_cons_zero, List.set_cons_succ]
      refine ⟨_, Or.inl ⟨by rfl, fun w' hS => by have e0 := Upd.cell1 hS c1 (by simp); first | (go_simp; done) | (go_simp; with_reducible rfl)⟩, ?_⟩
      simp only [Act.put, List.setIfInBounds_toArray, List.set_cons_zero, List.set_cons_succ]
      simp only [readsThen, preThen]
      change wpList _ _ _ [_, _, _] _ _
      have hwu : IntKind.u64.wrap (K0.length : Int) = (K0.length : Int) := IntWalk.u64_in _ (by omega)
      go_wp2_with (first
        | (go_at_call 188; (refine (Rows_S _ _ _ _ _ _ _).mono ?_); rintro e w2 ⟨rfl, hu2⟩)
        | (go_at_call 108; (refine (ColUInt64_AppendT _ _ q _ _ _ _ _ _ (hM.o.kept hu2.ofDrew (by simp) (by simp)) (by omega)).mono ?_); rintro e w3 ⟨rfl, ao3, c3, hO3, hU3, hI3⟩))
      go_end0
      rw [← HK.out]
      have hU2 := hu2.ofDrew
      have hql := hM.o.lt
      have hal := hM.o.bk_lt
      have hpl := hM.k.lt
      have hrl := hM.v.lt
      have hq3 : ∀ x, x ∈ Fp' → x ∉ q :: bk ao := fun x hx hx' => by
        rcases List.mem_cons.1 hx' with h | h
        · exact hM.qp (h ▸ hx)
        · exact hM.op x h hx
      have hq4 : ∀ x, x ∈ Fr' → x ∉ q :: bk ao := fun x hx hx' => by
        rcases List.mem_cons.1 hx' with h | h
        · exact hM.qr (h ▸ hx)
        · exact hM.or x h hx
      have hK3 := (hM.k.kept hU2 (by simp)).kept hU3 hq3
      have hV3 := (hM.v.kept hU2 (by simp)).kept hU3 hq4
      refine ⟨rfl, q :: (bk ao3 ++ (Fp' ++ Fr')), ⟨ao3, c3, p, r, Fp', Fr', ⟨?_, hK3, hV3, hM.qp, hM.qr, ?_, ?_, hM.pr⟩, by simp, fun x hx => by simp [hx], fun x hx => by simp [hx], fun x hx => by simp [hx], ?_⟩, ?_, ?_⟩
      · simpa using hO3
      · exact fun x hx hx' => (hI3 x hx).elim (fun h => hM.op x h hx') (fun h => by have := hpl x hx'; have := hU2.size; omega)
      · exact fun x hx hx' => (hI3 x hx).elim (fun h => hM.or x h hx') (fun h => by have := hrl x hx'; have := hU2.size; omega)
      · intro x hx
        simp only [List.mem_cons, List.mem_append] at hx
        rcases hx with rfl | hx | hx | hx
        · exact hO3.lt
        · exact hO3.bk_lt x hx
        · exact hK3.lt x hx
        · exact hV3.lt x hx
      · exact (hU.trans hU2 (by simp)).trans hU3 (fun x hx => .inl (by
          rcases List.mem_cons.1 hx with h | h
          · rw [h]; exact hqF
          · exact haF x h))
      · intro x hx
        simp only [List.mem_cons, List.mem_append] at hx
        rcases hx with rfl | hx | hx | hx
        · exact .inl hqF
        · exact (hI3 x hx).imp (haF x) (fun h => by have := hU2.size; have := hU.size; omega)
        · exact (hGp x hx).imp (hpF x) id
        · exact (hGr x hx).imp (hrF x) id
end Go.Proofs.YtpehfhdacgjmpaaGreat
