/- A block is read into columns that have no names yet. -/
import Derived.Test.YteimeeepcfcfcaaGreatDoorME
namespace Go.Proofs.YteimeeepcfcfcaaGreatDoor
set_option maxRecDepth 100000
set_option maxHeartbeats 2000000
set_option linter.unusedVariables false
set_option linter.unusedSimpArgs false
open Go Go.RowKit
theorem toList_emp (s : ByteArray) (h : ¬ 0 < s.size) : s.toList.isEmpty = true := by
  rw [ByteArray.toList_eq]
  cases hl : s.data.toList with
  | nil => rfl
  | cons a l =>
    have : s.data.toList.length = (a :: l).length := by rw [hl]
    rw [Array.length_toList] at this
    have h2 : s.size = s.data.size := rfl
    simp at this
    omega
/-- a column without a name -/
def bare (E : ByteArray) (q : Bc × Nat) : List Value := [.string E, .iface q.1.K.tI (q.1.K.V q.2)]
theorem bare_len (E : ByteArray) (q : Bc × Nat) : (bare E q).length = 2 := rfl
/-- the first k have got their names -/
def half (E : ByteArray) (qs : List (Bc × Nat)) (k : Nat) : List Value := (qs.take k).flatMap inCells ++ (qs.drop k).flatMap (bare E)
theorem half_zero (E : ByteArray) (qs : List (Bc × Nat)) : half E qs 0 = qs.flatMap (bare E) := by simp [half]
theorem half_head {E : ByteArray} {qs : List (Bc × Nat)} {k : Nat} (hk : k < qs.length) : ((qs.take k).flatMap inCells).length = k * 2 := by
  rw [flatMap_len _ 2 inCells_len, List.length_take]
  congr 1
  omega
theorem half_split {E : ByteArray} {qs : List (Bc × Nat)} {k : Nat} (hk : k < qs.length) : half E qs k = (qs.take k).flatMap inCells ++ (bare E qs[k] ++ (qs.drop (k + 1)).flatMap (bare E)) := by
  unfold half
  rw [List.drop_eq_getElem_cons hk, List.flatMap_cons]
theorem half_at {E : ByteArray} {qs : List (Bc × Nat)} {k : Nat} (hk : k < qs.length) (j : Nat) (hj : j < 2) : (half E qs k)[k * 2 + j]? = (bare E qs[k])[j]? := by
  rw [half_split hk, List.getElem?_append_right (by rw [half_head (E := E) hk]; omega), half_head (E := E) hk, List.getElem?_append_left (by rw [bare_len]; omega)]
  congr 1
  omega
theorem half_step {E : ByteArray} {qs : List (Bc × Nat)} {k : Nat} (hk : k < qs.length) : ((half E qs k).set (k * 2) (.string qs[k].1.nm)).set (k * 2 + 1) (.iface qs[k].1.K.tI (qs[k].1.K.V qs[k].2)) = half E qs (k + 1) := by
  rw [half_split hk, List.set_append_right _ _ (by rw [half_head (E := E) hk]; omega), List.set_append_right _ _ (by rw [half_head (E := E) hk]; omega), half_head (E := E) hk]
  rw [show k * 2 - k * 2 = 0 by omega, show k * 2 + 1 - k * 2 = 1 by omega]
  unfold half
  rw [List.take_succ_eq_append_getElem hk, List.flatMap_append, List.flatMap_singleton, List.append_assoc]
  rfl
theorem Row.cells2 {w : World} {e : TypeId} {g n c : Nat} {xs : List Value} (h : Row w e 2 (some ⟨g, 0, none⟩) n c xs) (o : Nat) (u v : Value) : Row (w.setCells g o [u, v]) e 2 (some ⟨g, 0, none⟩) n c ((xs.set o u).set (o + 1) v) :=
  (World.ownsRow.stored (World.ownsRow.stored h o u).1 (o + 1) v).1
theorem Upd.cells2 (w : World) (g o : Nat) (u v : Value) : Upd [g] w (w.setCells g o [u, v]) :=
  ((Upd.refl [g] w).setCell (p := ⟨g, o, none⟩) u (by simp)).setCell (p := ⟨g, o + 1, none⟩) v (by simp)
theorem Fil.stepG {w w' : World} {B rd bf p g : Nat} {ao ao' : Option Addr} {q : Bc × Nat} (h : Fil w B rd bf ao q) (hu : Upd (p :: g :: rdF rd bf ao) w w') (hi : In (bk ao) w.heap.size ao') (hp : p < B) (hg : g < B) (hne : q.2 ≠ p) (hneg : q.2 ≠ g) : Fil w' B rd bf ao' q := by
  obtain ⟨aq, c, h1, h2, h3, h4⟩ := h
  refine ⟨aq, c, h1.kept hu (fun hx => ?_) (fun y hy hx => ?_), h2, notF_step h3 h1.lt hi, fun y hy => notF_step (h4 y hy) (h1.own.lt y hy) hi⟩
  · rcases List.mem_cons.1 hx with e | e
    · exact hne e
    · rcases List.mem_cons.1 e with e | e
      · exact hneg e
      · exact h3 e
  · have hB : B ≤ y := (h2 y hy).elim (fun h => by simp at h) id
    rcases List.mem_cons.1 hx with e | e
    · omega
    · rcases List.mem_cons.1 e with e | e
      · omega
      · exact h4 y hy e
theorem Emp.stepG {w w' : World} {rd bf p g : Nat} {ao ao' : Option Addr} {q : Bc × Nat} (h : Emp w rd bf ao q) (hu : Upd (p :: g :: rdF rd bf ao) w w') (hi : In (bk ao) w.heap.size ao') (hne : q.2 ≠ p) (hneg : q.2 ≠ g) : Emp w' rd bf ao' q := by
  obtain ⟨h1, h3⟩ := h
  refine ⟨h1.kept hu (fun hx => ?_) (by simp), notF_step h3 h1.lt hi⟩
  rcases List.mem_cons.1 hx with e | e
  · exact hne e
  · rcases List.mem_cons.1 e with e | e
    · exact hneg e
    · exact h3 e
set_option maxHeartbeats 4000000 in
theorem DecodeResult_B (E : ByteArray) (hEm : ¬ 0 < E.size) (g : Nat) (rd bf d : Nat) (ao : Option Addr) (ov : Bool) (b v : Int) (R : Nat) (hR0 : 0 < R) (hR : R ≤ 20) (cr : Nat) (qs : List (Bc × Nat)) (hq0 : 0 < qs.length) (hqn : qs.length ≤ 10) (rest : List Value) (w : World)
    (h : Rdr w rd bf d ao (bodyV v (qs.map Prod.fst) ++ rest)) (hok : ∀ q ∈ qs, OkB q.1) (hrn : ∀ q ∈ qs, q.1.rs.length = R) (hnm : ∀ q ∈ qs, 0 < q.1.nm.size)
    (hv : Row w 98 2 (some ⟨g, 0, none⟩) qs.length cr (qs.flatMap (bare E))) (har : g ∉ colF qs rd bf ao) (hgd : g ≠ d) (hd : ∀ q ∈ qs, q.2 ≠ d)
    (hE : ∀ q ∈ qs, Emp w rd bf ao q) (hnd : ∀ (i j : Nat) (hi : i < qs.length) (hj : j < qs.length), i ≠ j → qs[i].2 ≠ qs[j].2) :
    Calls Tryz.prog 147 #[.slice (some ⟨g, 0, none⟩) qs.length cr, .pointer (some ⟨rd, 0, none⟩), .int .i64 v, blkV ov b qs.length R] w fun e w' => e = .returned .nilIface ∧ ∃ ao', Rdr w' rd bf d ao' rest ∧ Upd (g :: colF qs rd bf ao) w w' ∧ In (bk ao) w.heap.size ao' ∧ ∀ q ∈ qs, Fil w' w.heap.size rd bf ao' q := by
  obtain ⟨n, hnn⟩ : ∃ n, n = qs.length := ⟨_, rfl⟩
  rw [← hnn] at hq0 hqn hv ⊢
  have HN := Lib.hid hnn
  clear hnn
  obtain ⟨k1, u1, s1⟩ := alloc_facts w (Obj.cells #[.bool ov, .int .i64 b, .int .i64 n, .int .i64 R] 56)
  have hne0 : ((n : Int) == 0) = false := beq_eq_false_iff_ne.2 (by omega)
  have hneR : ((R : Int) == 0) = false := beq_eq_false_iff_ne.2 (by omega)
  have p2 : (w.alloc (Obj.cells #[.bool ov, .int .i64 b, .int .i64 n, .int .i64 R] 56)).cell? ⟨w.heap.size, 2, none⟩ = some (.int .i64 n) := (cellAt k1 2).trans rfl
  have p3 : (w.alloc (Obj.cells #[.bool ov, .int .i64 b, .int .i64 n, .int .i64 R] 56)).cell? ⟨w.heap.size, 3, none⟩ = some (.int .i64 R) := (cellAt k1 3).trans rfl
  have hgl : g < w.heap.size := hv.lt g (by simp)
  have hqsg : ∀ q ∈ qs, q.2 ≠ g := fun q hq e => har (by rw [← e]; exact List.mem_append.2 (.inl (List.mem_map_of_mem hq)))
  have hlp : ∀ q ∈ qs, q.2 < w.heap.size := fun q hq => (hE q hq).1.lt
  have hnb0 : w.heap.size ∉ colF qs rd bf ao := fun hx => by
    have h1 := h.ltr
    have h2 := h.ltb
    rcases List.mem_append.1 hx with hx | hx
    · obtain ⟨q, hq, e⟩ := List.mem_map.1 hx
      have := hlp q hq
      omega
    · simp only [rdF, List.mem_cons] at hx
      rcases hx with e | e | e
      · omega
      · omega
      · obtain ⟨n', c', xs', hH⟩ := h.buf
        have := hH.own.lt _ e
        omega
  have hnb : w.heap.size ∉ g :: colF qs rd bf ao := fun hx => by
    rcases List.mem_cons.1 hx with e | e
    · omega
    · exact hnb0 e
  have hee := toList_emp E hEm
  go_enter Tryz.func147, Tryz.ntmps147
  simp only [blkV]
  go_wp2
  generalize hW0 : (w.alloc (Obj.cells #[.bool ov, .int .i64 b, .int .i64 n, .int .i64 R] 56)) = W0 at *
  have hsz : w.heap.size ≤ W0.heap.size := u1.size
  have h0 := h.kept u1 (by simp)
  have hE0 : ∀ q ∈ qs, Emp W0 rd bf ao q := fun q hq => ⟨(hE q hq).1.kept u1 (by simp) (by simp), (hE q hq).2⟩
  have hv0 := hv.upd u1 (by simp)
  clear hE hv h k1 hW0
  go_loopw [13] (fun i wr => ∃ (k : Nat) (ao' : Option Addr), k ≤ n ∧ i = .int .i64 k ∧ Rdr wr rd bf d ao' (bodyV v ((qs.drop k).map Prod.fst) ++ rest) ∧ Upd (g :: colF qs rd bf ao) W0 wr ∧ Row wr 98 2 (some ⟨g, 0, none⟩) n cr (half E qs k) ∧ In (bk ao) W0.heap.size ao' ∧ (∀ (j : Nat) (hj : j < qs.length), j < k → Fil wr w.heap.size rd bf ao' qs[j]) ∧ ∀ (j : Nat) (hj : j < qs.length), k ≤ j → Emp wr rd bf ao' qs[j])
    (fun i _ => n - (intOf i).toNat)
  case atStart => exact ⟨0, ao, Nat.zero_le _, rfl, h0, Upd.refl _ _, by rw [half_zero]; exact hv0, In.self (fun _ h => h), fun j hj h => absurd h (Nat.not_lt_zero _), fun j hj _ => hE0 _ (List.getElem_mem _)⟩
  case round =>
    obtain ⟨k, ao', hk, rfl, hRd, hU, hRow, hI, hF, hE⟩ := hrel
    have p2r := hU.cell1 p2 hnb
    have p3r := hU.cell1 p3 hnb
    by_cases hlt : k < n
    · have hk0 : ((k : Int) < n) := by omega
      have hkq : k < qs.length := by have := HN.out; omega
      have hdr : qs.drop k = qs[k] :: qs.drop (k + 1) := List.drop_eq_getElem_cons hkq
      have hEk := hE k hkq (Nat.le_refl _)
      have hndk := fun (j : Nat) (hj : j < qs.length) (hjk : j ≠ k) => hnd j k hj hkq hjk
      obtain ⟨q, hx⟩ : ∃ q, q = qs[k] := ⟨_, rfl⟩
      have hqm : q ∈ qs := by rw [hx]; exact List.getElem_mem _
      have hO := hok q hqm
      have hK := hO.ok
      have hqR := hrn q hqm
      have hqn0 := hnm q hqm
      have hqd := hd q hqm
      have hpl := hlp q hqm
      have d0 : wr.cell? ⟨g, k * 2, none⟩ = some (.string E) := hRow.cell (by have := half_at (E := E) hkq 0 (by omega); rw [Nat.add_zero] at this; rw [this]; rfl)
      have d1 : wr.cell? ⟨g, k * 2 + 1, none⟩ = some (.iface q.1.K.tI (q.1.K.V q.2)) := by rw [hx]; exact hRow.cell (by rw [half_at hkq 1 (by omega)]; rfl)
      have hst := half_step (E := E) hkq
      rw [← hx] at hEk hdr hndk hst
      have HX := Lib.hid hx
      have hqF : q.2 ∈ colF qs rd bf ao := List.mem_append.2 (.inl (List.mem_map_of_mem hqm))
      have hqg : q.2 ≠ g := fun e => har (by rw [← e]; exact hqF)
      clear hx
      obtain ⟨x, p⟩ := q
      simp only at d1 hO hK hqR hqn0 hqd hpl hEk hndk hqF hqg hst
      obtain ⟨hC, hCn⟩ := hEk
      have hnn1 := hO.n1
      have hnk := hK.nm
      have hnz : x.nm.toList.isEmpty = false := toList_ne _ hqn0
      have hby : bodyV v ((qs.drop k).map Prod.fst) ++ rest = strV x.nm ++ (strV x.K.name ++ ((if 54454 ≤ v then [Value.int .u8 0] else []) ++ (x.rs.flatMap x.K.bytes ++ (bodyV v ((qs.drop (k + 1)).map Prod.fst) ++ rest)))) := by
        rw [hdr]
        simp [bodyV, colV, headB]
      rw [hby] at hRd
      clear hby
      have et := hK.eType
      have es := hK.eReset
      have ed := hK.eDec
      have ta1 := hK.taInfer p
      have ta2 := hK.taStateD p
      have ms := hK.mReset p
      have md := hK.mDec p
      have hFt := FeatIn 54454 v
      have hbF : g ∉ rdF rd bf ao' := notF_step (fun hh => har (List.mem_append.2 (.inr hh))) (Nat.lt_of_lt_of_le hgl hsz) hI
      have hf0 : ∀ (W : World), Row W 98 2 (some ⟨g, 0, none⟩) n cr (half E qs k) → W.there g (k * 2) 2 := fun W hW j hj => by
        obtain ⟨u, hu⟩ : ∃ u, (half E qs k)[k * 2 + j]? = some u := by
          rw [half_at hkq j hj]
          exact ⟨(bare E qs[k])[j]'(by rw [bare_len]; omega), by simp⟩
        exact ⟨by rw [hW.cell hu]; rfl, hW.free _⟩
      have hnF : w.heap.size ∉ rdF rd bf ao' := notF_step (fun hh => hnb0 (List.mem_append.2 (.inr hh))) (by rw [s1]; omega) hI
      have hal : ∀ W : World, (W.alloc (Obj.cells #[.string x.nm, .iface x.K.tI (x.K.V p)] 98)).heap.size = W.heap.size + 1 := fun W => by simp
      by_cases hv5 : 54454 ≤ v
      · rw [if_pos hv5] at hRd
        go_wp2_with (first
          | (go_at_call 84; (with_reducible refine (rdStr rd bf d _ x.nm hqn0 (by omega) _ _ hRd).mono ?_); rintro e w1 ⟨rfl, ao1, hR1, hU1, hI1⟩)
          | (go_at_call 84; (with_reducible refine (rdStr rd bf d _ x.K.name hnk.1 (by omega) _ _ hR1).mono ?_); rintro e w2 ⟨rfl, hZ2⟩; obtain ⟨ao2, hR2, hU2, hI2⟩ := Reads.trans hU1 hI1 hZ2)
          | (go_at_call 32; (refine (hFt _).mono ?_); rintro e w3 ⟨rfl, hw3⟩; subst hw3)
          | (go_at_call 78; (refine (rdBool rd bf d _ false _ _ hR2).mono ?_); rintro e wz ⟨rfl, hZ3⟩; obtain ⟨aoz, hRz, hUz, hIz⟩ := Reads.trans hU2 hI2 hZ3; have e0 := hUz.cell1 d0 hbF; have e1 := hUz.cell1 d1 hbF; have e2 := hUz.cell1 p2r hnF; have e3 := hUz.cell1 p3r hnF; have hCz := hC.kept hUz hCn (by simp); have hpz := hCz.lt; obtain ⟨ka, ua, sa⟩ := alloc_facts wz (Obj.cells #[.string x.nm, .iface x.K.tI (x.K.V p)] 98); have hoz := hRow.upd hUz (by simpa using hbF); have hoa := hoz.upd ua (by simp); have us := Upd.cells2 (wz.alloc (Obj.cells #[.string x.nm, .iface x.K.tI (x.K.V p)] 98)) g (k * 2) (.string x.nm) (.iface x.K.tI (x.K.V p)); have hgz : g < wz.heap.size := hoz.lt g (by simp); have kas := us.at ka (by simp; omega); have a0 := (cellAt kas 0).trans rfl; have a1z := (cellAt kas 1).trans rfl; have hCa := (hCz.kept ua (by simp) (by simp)).kept us (by simpa using hqg) (by simp); have hRa := (hRz.kept ua (by simp)).kept us (fun y hy => by simp at hy; subst hy; exact ⟨fun e => hbF (by simp [rdF, e]), fun e => hbF (by simp [rdF, e]), hgd, fun hh => (notF_step hbF (Nat.lt_of_lt_of_le (Nat.lt_of_lt_of_le hgl hsz) hU.size) hIz) (by simp [rdF, hh])⟩); have mt := hK.mType p _ _ hCa.cell; have hon := hoa.cells2 (k * 2) (.string x.nm) (.iface x.K.tI (x.K.V p)); rw [hst] at hon; have hRn := (notF_step hCn hC.lt hIz); have hOff : Off p rd bf d aoz := ⟨fun e => hRn (by simp [rdF, e]), fun e => hRn (by simp [rdF, e]), hqd, fun hh => hRn (by simp [rdF, hh])⟩)
          | ((with_reducible show Calls _ x.K.fType _ _ _); (refine (hK.type _ _).mono ?_); rintro e w4 ⟨rfl, hw4⟩; subst hw4)
          | (go_at_call 149; (refine (conflictsEq _ _).mono ?_); rintro e w4 ⟨rfl, hw4⟩; subst hw4)
          | ((with_reducible show Calls _ x.K.fReset _ _ _); (refine (hK.reset p _ hCa).mono ?_); rintro e w5 ⟨rfl, hC5, hU5⟩; have hR5 := hRa.keptK hU5 hOff; have e35 := hU5.cell1 (us.cell1 (ua.cell1 e3 (by simp)) (by simp; omega)) (by simp; omega); have a1 := hU5.cell1 ((cellAt kas 1).trans rfl) (by simp; omega))
          | ((with_reducible show wpList _ _ _ _ _ _); refine wpList_store_mid rfl 98 _ _ rfl g (k * 2) #[.string x.nm, .iface x.K.tI (x.K.V p)] rfl rfl (hf0 _ hoa) (by kernel_rfl) (by simp [Value.oneCell']) ?_; show wpList _ _ _ _ _ (World.setCells _ g (k * 2) [.string x.nm, .iface x.K.tI (x.K.V p)]))
          | ((with_reducible show Calls _ x.K.fDec _ _ _); (refine (hK.dec p rd bf d _ R x.rs _ _ hO.rok hR5 hqR hR0 (by omega) hC5 hOff).mono ?_); rintro e w6 ⟨rfl, av, c6, ao6, hH6, hR6, hU6, hI6, hJ6, hD6⟩))
        have hUA : Upd (p :: g :: rdF rd bf ao') wr w6 := by
          refine ((((hUz.mono (fun y hy => .inl (List.mem_cons_of_mem _ (List.mem_cons_of_mem _ hy)))).trans ua (by simp)).trans us (by simp)).trans hU5 (by simp)).trans hU6 (fun y hy => ?_)
          rcases List.mem_cons.1 hy with e | e
          · exact .inl (by rw [e]; exact List.mem_cons_self)
          · by_cases hyr : y ∈ rdF rd bf ao'
            · exact .inl (List.mem_cons_of_mem _ (List.mem_cons_of_mem _ hyr))
            · refine .inr (Nat.le_of_not_lt fun hlt' => ?_)
              exact notF_step hyr hlt' hIz e
        have hws : wr.heap.size ≤ w5.heap.size := Nat.le_trans hUz.size (Nat.le_trans ua.size (Nat.le_trans us.size hU5.size))
        have hIA : In (bk ao') wr.heap.size ao6 := hIz.step hJ6 hws
        have hws0 : w.heap.size ≤ wr.heap.size := Nat.le_trans hsz hU.size
        have hF6 : ∀ (j : Nat) (hj : j < qs.length), j < k + 1 → Fil w6 w.heap.size rd bf ao6 qs[j] := fun j hj hjk => by
          by_cases hjk' : j < k
          · exact (hF j hj hjk').stepG hUA hIA hpl hgl (hndk j hj (by omega)) (hqsg _ (List.getElem_mem _))
          · obtain rfl : j = k := by omega
            rw [← HX.out]
            refine ⟨av, c6, by rw [hqR]; exact hH6, hI6.le (Nat.le_trans hws0 hws), ?_, hD6⟩
            exact notF_step hCn hC.lt hIA
        have hE6 : ∀ (j : Nat) (hj : j < qs.length), k + 1 ≤ j → Emp w6 rd bf ao6 qs[j] := fun j hj hjk => (hE j hj (by omega)).stepG hUA hIA (hndk j hj (by omega)) (hqsg _ (List.getElem_mem _))
        have hU6' : Upd (g :: colF qs rd bf ao) W0 w6 := hU.trans hUA (fun y hy => by
          rcases List.mem_cons.1 hy with e | e
          · exact .inl (by rw [e]; exact List.mem_cons_of_mem _ hqF)
          · rcases List.mem_cons.1 e with e | e
            · exact .inl (List.mem_cons.2 (.inl e))
            · by_cases hyr : y ∈ rdF rd bf ao
              · exact .inl (List.mem_cons_of_mem _ (List.mem_append.2 (.inr hyr)))
              · refine .inr (Nat.le_of_not_lt fun hlt' => ?_)
                exact notF_step hyr hlt' hI e)
        have hpg : g ∉ [p] := by simp only [List.mem_singleton]; exact fun e => hqg e.symm
        have hRow6 : Row w6 98 2 (some ⟨g, 0, none⟩) n cr (half E qs (k + 1)) := (hon.upd hU5 (by simpa using hpg)).upd hU6 (fun y hy hy' => by
          simp at hy
          subst hy
          rcases List.mem_cons.1 hy' with e | e
          · exact hqg e.symm
          · exact (notF_step hbF (Nat.lt_of_lt_of_le (Nat.lt_of_lt_of_le hgl hsz) hU.size) hIz) e)
        have hI6' : In (bk ao) W0.heap.size ao6 := hI.step hIA hU.size
        clear hF hE
        go_roundw
        case rel => exact ⟨k + 1, ao6, by omega, by go_num, hR6, hU6', hRow6, hI6', hF6, hE6⟩
        case measure => simp [intOf]; omega
      · rw [if_neg hv5] at hRd
        go_wp2_with (first
          | (go_at_call 84; (with_reducible refine (rdStr rd bf d _ x.nm hqn0 (by omega) _ _ hRd).mono ?_); rintro e w1 ⟨rfl, ao1, hR1, hU1, hI1⟩)
          | (go_at_call 84; (with_reducible refine (rdStr rd bf d _ x.K.name hnk.1 (by omega) _ _ hR1).mono ?_); rintro e wz ⟨rfl, hZ2⟩; obtain ⟨aoz, hRz, hUz, hIz⟩ := Reads.trans hU1 hI1 hZ2; have e0 := hUz.cell1 d0 hbF; have e1 := hUz.cell1 d1 hbF; have e2 := hUz.cell1 p2r hnF; have e3 := hUz.cell1 p3r hnF; have hCz := hC.kept hUz hCn (by simp); have hpz := hCz.lt; obtain ⟨ka, ua, sa⟩ := alloc_facts wz (Obj.cells #[.string x.nm, .iface x.K.tI (x.K.V p)] 98); have hoz := hRow.upd hUz (by simpa using hbF); have hoa := hoz.upd ua (by simp); have us := Upd.cells2 (wz.alloc (Obj.cells #[.string x.nm, .iface x.K.tI (x.K.V p)] 98)) g (k * 2) (.string x.nm) (.iface x.K.tI (x.K.V p)); have hgz : g < wz.heap.size := hoz.lt g (by simp); have kas := us.at ka (by simp; omega); have a0 := (cellAt kas 0).trans rfl; have a1z := (cellAt kas 1).trans rfl; have hCa := (hCz.kept ua (by simp) (by simp)).kept us (by simpa using hqg) (by simp); have hRa := (hRz.kept ua (by simp)).kept us (fun y hy => by simp at hy; subst hy; exact ⟨fun e => hbF (by simp [rdF, e]), fun e => hbF (by simp [rdF, e]), hgd, fun hh => (notF_step hbF (Nat.lt_of_lt_of_le (Nat.lt_of_lt_of_le hgl hsz) hU.size) hIz) (by simp [rdF, hh])⟩); have mt := hK.mType p _ _ hCa.cell; have hon := hoa.cells2 (k * 2) (.string x.nm) (.iface x.K.tI (x.K.V p)); rw [hst] at hon; have hRn := (notF_step hCn hC.lt hIz); have hOff : Off p rd bf d aoz := ⟨fun e => hRn (by simp [rdF, e]), fun e => hRn (by simp [rdF, e]), hqd, fun hh => hRn (by simp [rdF, hh])⟩)
          | (go_at_call 32; (refine (hFt _).mono ?_); rintro e w3 ⟨rfl, hw3⟩; subst hw3)
          | ((with_reducible show Calls _ x.K.fType _ _ _); (refine (hK.type _ _).mono ?_); rintro e w4 ⟨rfl, hw4⟩; subst hw4)
          | (go_at_call 149; (refine (conflictsEq _ _).mono ?_); rintro e w4 ⟨rfl, hw4⟩; subst hw4)
          | ((with_reducible show Calls _ x.K.fReset _ _ _); (refine (hK.reset p _ hCa).mono ?_); rintro e w5 ⟨rfl, hC5, hU5⟩; have hR5 := hRa.keptK hU5 hOff; have e35 := hU5.cell1 (us.cell1 (ua.cell1 e3 (by simp)) (by simp; omega)) (by simp; omega); have a1 := hU5.cell1 ((cellAt kas 1).trans rfl) (by simp; omega))
          | ((with_reducible show wpList _ _ _ _ _ _); refine wpList_store_mid rfl 98 _ _ rfl g (k * 2) #[.string x.nm, .iface x.K.tI (x.K.V p)] rfl rfl (hf0 _ hoa) (by kernel_rfl) (by simp [Value.oneCell']) ?_; show wpList _ _ _ _ _ (World.setCells _ g (k * 2) [.string x.nm, .iface x.K.tI (x.K.V p)]))
          | ((with_reducible show Calls _ x.K.fDec _ _ _); (refine (hK.dec p rd bf d _ R x.rs _ _ hO.rok hR5 hqR hR0 (by omega) hC5 hOff).mono ?_); rintro e w6 ⟨rfl, av, c6, ao6, hH6, hR6, hU6, hI6, hJ6, hD6⟩))
        have hUA : Upd (p :: g :: rdF rd bf ao') wr w6 := by
          refine ((((hUz.mono (fun y hy => .inl (List.mem_cons_of_mem _ (List.mem_cons_of_mem _ hy)))).trans ua (by simp)).trans us (by simp)).trans hU5 (by simp)).trans hU6 (fun y hy => ?_)
          rcases List.mem_cons.1 hy with e | e
          · exact .inl (by rw [e]; exact List.mem_cons_self)
          · by_cases hyr : y ∈ rdF rd bf ao'
            · exact .inl (List.mem_cons_of_mem _ (List.mem_cons_of_mem _ hyr))
            · refine .inr (Nat.le_of_not_lt fun hlt' => ?_)
              exact notF_step hyr hlt' hIz e
        have hws : wr.heap.size ≤ w5.heap.size := Nat.le_trans hUz.size (Nat.le_trans ua.size (Nat.le_trans us.size hU5.size))
        have hIA : In (bk ao') wr.heap.size ao6 := hIz.step hJ6 hws
        have hws0 : w.heap.size ≤ wr.heap.size := Nat.le_trans hsz hU.size
        have hF6 : ∀ (j : Nat) (hj : j < qs.length), j < k + 1 → Fil w6 w.heap.size rd bf ao6 qs[j] := fun j hj hjk => by
          by_cases hjk' : j < k
          · exact (hF j hj hjk').stepG hUA hIA hpl hgl (hndk j hj (by omega)) (hqsg _ (List.getElem_mem _))
          · obtain rfl : j = k := by omega
            rw [← HX.out]
            refine ⟨av, c6, by rw [hqR]; exact hH6, hI6.le (Nat.le_trans hws0 hws), ?_, hD6⟩
            exact notF_step hCn hC.lt hIA
        have hE6 : ∀ (j : Nat) (hj : j < qs.length), k + 1 ≤ j → Emp w6 rd bf ao6 qs[j] := fun j hj hjk => (hE j hj (by omega)).stepG hUA hIA (hndk j hj (by omega)) (hqsg _ (List.getElem_mem _))
        have hU6' : Upd (g :: colF qs rd bf ao) W0 w6 := hU.trans hUA (fun y hy => by
          rcases List.mem_cons.1 hy with e | e
          · exact .inl (by rw [e]; exact List.mem_cons_of_mem _ hqF)
          · rcases List.mem_cons.1 e with e | e
            · exact .inl (List.mem_cons.2 (.inl e))
            · by_cases hyr : y ∈ rdF rd bf ao
              · exact .inl (List.mem_cons_of_mem _ (List.mem_append.2 (.inr hyr)))
              · refine .inr (Nat.le_of_not_lt fun hlt' => ?_)
                exact notF_step hyr hlt' hI e)
        have hpg : g ∉ [p] := by simp only [List.mem_singleton]; exact fun e => hqg e.symm
        have hRow6 : Row w6 98 2 (some ⟨g, 0, none⟩) n cr (half E qs (k + 1)) := (hon.upd hU5 (by simpa using hpg)).upd hU6 (fun y hy hy' => by
          simp at hy
          subst hy
          rcases List.mem_cons.1 hy' with e | e
          · exact hqg e.symm
          · exact (notF_step hbF (Nat.lt_of_lt_of_le (Nat.lt_of_lt_of_le hgl hsz) hU.size) hIz) e)
        have hI6' : In (bk ao) W0.heap.size ao6 := hI.step hIA hU.size
        clear hF hE
        go_roundw
        case rel => exact ⟨k + 1, ao6, by omega, by go_num, hR6, hU6', hRow6, hI6', hF6, hE6⟩
        case measure => simp [intOf]; omega
    · have hk0 : ¬ ((k : Int) < n) := by omega
      obtain rfl : k = n := by omega
      rw [List.drop_of_length_le (by have := HN.out; omega)] at hRd
      go_wp2
      go_ret
      refine ⟨rfl, ao', hRd, (u1.mono (by simp)).trans hU (fun _ h => .inl h), hI.le hsz, fun q x hq => ?_⟩
      obtain ⟨j, hj, e⟩ := List.getElem_of_mem hq
      rw [← e]
      exact hF j hj (by have := HN.out; omega)
/-- columns that wait to be read, by a Reader, into a block -/
structure DecPreB (w : World) (E : ByteArray) (g cr kb rd bf d : Nat) (ao : Option Addr) (qs : List (Bc × Nat)) : Prop where
  row : Row w 98 2 (some ⟨g, 0, none⟩) qs.length cr (qs.flatMap (bare E))
  arn : g ∉ kb :: colF qs rd bf ao
  gd : g ≠ d
  emp : ∀ q ∈ qs, Emp w rd bf ao q
  nd : ∀ q ∈ qs, q.2 ≠ d
  nk : ∀ q ∈ qs, q.2 ≠ kb
  nn : ∀ (i j : Nat) (hi : i < qs.length) (hj : j < qs.length), i ≠ j → qs[i].2 ≠ qs[j].2
theorem DecPreB.step {w w' : World} {E : ByteArray} {g cr kb rd bf d : Nat} {ao ao' : Option Addr} {qs : List (Bc × Nat)} (h : DecPreB w E g cr kb rd bf d ao qs) (hu : Upd (kb :: rdF rd bf ao) w w') (hi : In (bk ao) w.heap.size ao') : DecPreB w' E g cr kb rd bf d ao' qs := by
  have hF : g ∉ kb :: rdF rd bf ao := fun hx' => h.arn (by
    rcases List.mem_cons.1 hx' with e | e
    · exact List.mem_cons.2 (.inl e)
    · exact List.mem_cons_of_mem _ (List.mem_append.2 (.inr e)))
  have hgl := h.row.lt g (by simp)
  refine ⟨h.row.upd hu (by simpa using hF), fun hx' => ?_, h.gd, fun q hq => (h.emp q hq).step hu hi (h.nk q hq), h.nd, h.nk, h.nn⟩
  rcases List.mem_cons.1 hx' with e | e
  · exact h.arn (List.mem_cons.2 (.inl e))
  · rcases List.mem_append.1 e with e | e
    · exact h.arn (List.mem_cons_of_mem _ (List.mem_append.2 (.inl e)))
    · exact notF_step (fun e => hF (List.mem_cons_of_mem _ e)) hgl hi e
/-- columns are read into a block, and get their names -/
def DecGotB (g : Nat) (w w' : World) (kb rd bf d : Nat) (ao : Option Addr) (qs : List (Bc × Nat)) (rest : List Value) : Prop :=
  ∃ ao', Rdr w' rd bf d ao' rest ∧ Upd (g :: kb :: colF qs rd bf ao) w w' ∧ In (bk ao) w.heap.size ao' ∧ ∀ q ∈ qs, Fil w' w.heap.size rd bf ao' q
theorem DecGotB.trans {g : Nat} {w w1 w2 : World} {kb rd bf d : Nat} {ao ao1 : Option Addr} {qs : List (Bc × Nat)} {rest : List Value} (hu : Upd (kb :: rdF rd bf ao) w w1) (hi : In (bk ao) w.heap.size ao1) (h : DecGotB g w1 w2 kb rd bf d ao1 qs rest) : DecGotB g w w2 kb rd bf d ao qs rest := by
  obtain ⟨ao2, h1, h2, h3, h4⟩ := h
  refine ⟨ao2, h1, (hu.mono (fun x hx => ?_)).trans h2 (fun y hy => ?_), hi.step h3 hu.size, fun q hq => (h4 q hq).le hu.size⟩
  · rcases List.mem_cons.1 hx with e | e
    · exact .inl (by rw [e]; exact List.mem_cons_of_mem _ List.mem_cons_self)
    · exact .inl (List.mem_cons_of_mem _ (List.mem_cons_of_mem _ (List.mem_append.2 (.inr e))))
  · rcases List.mem_cons.1 hy with e | hy
    · exact .inl (List.mem_cons.2 (.inl e))
    · rcases List.mem_cons.1 hy with e | e
      · exact .inl (by rw [e]; exact List.mem_cons_of_mem _ List.mem_cons_self)
      · rcases List.mem_append.1 e with e | e
        · exact .inl (List.mem_cons_of_mem _ (List.mem_cons_of_mem _ (List.mem_append.2 (.inl e))))
        · by_cases hyr : y ∈ rdF rd bf ao
          · exact .inl (List.mem_cons_of_mem _ (List.mem_cons_of_mem _ (List.mem_append.2 (.inr hyr))))
          · exact .inr (Nat.le_of_not_lt fun hlt => notF_step hyr hlt hi e)
theorem DecodeRawBlock_B (kb rd bf d : Nat) (ao : Option Addr) (ov : Bool) (b v : Int) (R : Nat) (E : ByteArray) (hEm : ¬ 0 < E.size) (g cr : Nat) (qs : List (Bc × Nat)) (hC : ColsOK R qs) (rest : List Value) (w : World) (h : Rdr w rd bf d ao (rawV v R (qs.map Prod.fst) ++ rest)) (hk : w.heap[kb]? = some (blkC ov b 0 0)) (ho : Off kb rd bf d ao) (hp : DecPreB w E g cr kb rd bf d ao qs) :
    Calls Tryz.prog 42 #[.pointer (some ⟨kb, 0, none⟩), .pointer (some ⟨rd, 0, none⟩), .int .i64 v, .iface 93 (.slice (some ⟨g, 0, none⟩) qs.length cr)] w fun e w' => e = .returned .nilIface ∧ w'.heap[kb]? = some (blkC ov b qs.length R) ∧ DecGotB g w w' kb rd bf d ao qs rest := by
  have hkl := lt_of_block hk
  have hn1 := hC.n1
  have hn0 := hC.n0
  have hr1 := hC.r1
  have hr0 := hC.r0
  have hbl : rawV v R (qs.map Prod.fst) ++ rest = .int .u8 qs.length :: (.int .u8 R :: (bodyV v (qs.map Prod.fst) ++ rest)) := by simp [rawV]
  rw [hbl] at h
  clear hbl
  have hDR := fun (ao' : Option Addr) (W : World) (hR : Rdr W rd bf d ao' (bodyV v (qs.map Prod.fst) ++ rest)) (hpW : DecPreB W E g cr kb rd bf d ao' qs) => DecodeResult_B E hEm g rd bf d ao' ov b v R hr0 hr1 cr qs hn0 hn1 rest W hR hC.ok hC.rn hC.nm hpW.row (fun hx' => hpW.arn (List.mem_cons_of_mem _ hx')) hpW.gd hpW.nd hpW.emp hpW.nn
  obtain ⟨n, hnn⟩ : ∃ n, n = qs.length := ⟨_, rfl⟩
  rw [← hnn] at h hn1 hn0 hDR ⊢
  have HN := Lib.hid hnn
  clear hnn
  have hx1 : ¬ (1000000 : Int) < n := by omega
  have hx2 : ¬ (n : Int) < 0 := by omega
  have hmr := methRes
  have hna := nilAheadRes
  have hend : (decide ((n : Int) = 0) && decide ((R : Int) = 0)) = false := by rw [decide_eq_false (show ¬ (n : Int) = 0 by omega)]; rfl
  go_enter Tryz.func42, Tryz.ntmps42
  go_wp2_with (first
    | (go_at_call 80; (with_reducible refine (rdIntN rd bf d ao n (by omega) (by omega) _ _ h).mono ?_); rintro e w1 ⟨rfl, ao1, hR1, hU1, hI1⟩; have hB1 := hU1.at hk ho.not; obtain ⟨q0, q1, q2, q3, qf⟩ := blk_cells hB1; have f2 := qf 2; clear q0 q1 q3 qf; have hO1 := ho.step hI1 hkl; have hS1 := ((Upd.refl [kb] w1).setCell (p := ⟨kb, 2, none⟩) (Value.int .i64 n) (by simp)); have hR2 := hR1.keptK hS1 hO1; have hB2 := blk_set2 hB1 n; have hp1 := (hp.step (hU1.mono (fun x hx => .inl (List.mem_cons_of_mem _ hx))) hI1).step (hS1.mono (by simp +contextual)) (In.self (fun _ h => h)))
    | (go_at_call 80; (with_reducible refine (rdIntN rd bf d ao1 R (by omega) (by omega) _ _ hR2).mono ?_); rintro e w3 ⟨rfl, ao3, hR3, hU3, hI3⟩; have hB3 := hU3.at hB2 hO1.not; obtain ⟨p0, p1, p2, p3, pf⟩ := blk_cells hB3; have g3 := pf 3; clear p0 p1 p2 pf; have hB4 := blk_set3 hB3 R; have hS3 := ((Upd.refl [kb] w3).setCell (p := ⟨kb, 3, none⟩) (Value.int .i64 R) (by simp)); have hO3 := hO1.step hI3 (by rw [World.size_setCell]; exact Nat.lt_of_lt_of_le hkl hU1.size); have hR4 := hR3.keptK hS3 hO3; have hp4 := (hp1.step (hU3.mono (fun x hx => .inl (List.mem_cons_of_mem _ hx))) hI3).step (hS3.mono (by simp +contextual)) (In.self (fun _ h => h)); obtain ⟨z0, z1, z2, z3, zf⟩ := blk_cells hB4; have rz := rangeAt_blk (cs := [.bool ov, .int .i64 b, .int .i64 n, .int .i64 R]) hB4)
    | (go_at_call 81; (refine (checkRowsN _ (by omega) (by omega) _).mono ?_); rintro e w5 ⟨rfl, rfl⟩)
    | (go_at_call 82; (refine (blockEnd kb ov b n R _ hB4).mono ?_); rintro e w6 ⟨rfl, rfl⟩; rw [hend]))
  have hlW : kb < (w5.setCell ⟨kb, 3, none⟩ (Value.int .i64 R)).heap.size := lt_of_block hB4
  have hS4 := (((hU1.mono (fun x hx => .inl (List.mem_cons_of_mem _ hx))).trans (hS1.mono (G := kb :: rdF rd bf ao) (by simp +contextual)) (fun _ h => .inl h)).trans (hU3.mono (G := kb :: rdF rd bf ao1) (fun x hx => .inl (List.mem_cons_of_mem _ hx))) (fun y hy => by
    rcases List.mem_cons.1 hy with e | e
    · exact .inl (List.mem_cons.2 (.inl e))
    · by_cases hyr : y ∈ rdF rd bf ao
      · exact .inl (List.mem_cons_of_mem _ hyr)
      · exact .inr (Nat.le_of_not_lt fun hlt => notF_step hyr hlt hI1 e))).trans (hS3.mono (G := kb :: rdF rd bf ao) (by simp +contextual)) (fun _ h => .inl h)
  have hI4 : In (bk ao) w.heap.size ao3 := hI1.step hI3 (by rw [World.size_setCell]; exact hU1.size)
  generalize w5.setCell ⟨kb, 3, none⟩ (Value.int .i64 R) = W at *
  have hmf : ∀ (fn : Fn) (first cap : Array Value) (w : World), (Instr.makeFunc fn first cap).run Tryz.prog w = .ok (.func fn first cap) w := fun _ _ _ _ => rfl
  refine wp_region_split (S := Upd [] W) [(true, 0), (true, 1), (true, 2), (true, 3), (true, 4), (true, 5), (true, 6), (true, 7), (true, 8)] [] [9, 10] (by kernel_rfl) (by kernel_rfl) (fun _ _ d _ _ h => by cases d <;> exact h) ((Upd.refl _ _).drew) ?_
  simp only [readsAt, opersAt, Option.map_some, List.filterMap_cons, List.filterMap_nil, List.getElem?_toArray, List.getElem?_cons_succ, List.getElem?_cons_zero]
  iterate 5 (refine ⟨_, Or.inl ⟨by rfl, fun w' hS => by first | (go_simp; done) | (go_simp; with_reducible rfl)⟩, ?_⟩; simp only [Act.put, List.setIfInBounds_toArray, List.set_cons_zero, List.set_cons_succ])
  refine ⟨_, yieldsIf_load_mid (by rfl) 56 (.tmp 133) rfl kb 0 rfl [.bool ov, .int .i64 b, .int .i64 n, .int .i64 R] _ (fun w' hS => Upd.range hS rz hlW (by simp)) Tryz.underlying56 rfl (by kernel_rfl), ?_⟩
  simp only [Act.put, List.setIfInBounds_toArray, List.set_cons_zero, List.set_cons_succ]
  iterate 3 (refine ⟨_, Or.inl ⟨by rfl, fun w' hS => by first | (go_simp; done) | (go_simp; with_reducible rfl)⟩, ?_⟩; simp only [Act.put, List.setIfInBounds_toArray, List.set_cons_zero, List.set_cons_succ])
  simp only [readsThen, preThen]
  change wpList _ _ _ [_, _] _ _
  have hdW := (Upd.refl [] W).drew
  have hR5 := hR4.kept hdW (by simp)
  have hp5 := hp4.step (hdW.mono (by simp)) (In.self (fun _ h => h))
  go_wp2_with (go_at_call 147; (refine (hDR _ _ hR5 hp5).mono ?_); rintro e w7 ⟨rfl, ao7, hR7, hU7, hI7, hF7⟩)
  go_ret
  have hkn : kb ∉ g :: colF qs rd bf ao3 := fun hx => by
    rcases List.mem_cons.1 hx with e | hx
    · exact hp.arn (by rw [← e]; exact List.mem_cons_self)
    rcases List.mem_append.1 hx with e | e
    · obtain ⟨q, hq, e⟩ := List.mem_map.1 e
      exact hp.nk q hq e
    · exact hO3.not e
  exact ⟨rfl, hU7.at (hdW.at hB4 (by simp)) hkn, DecGotB.trans hS4 hI4 ⟨ao7, hR7, hU7.ofDrew.mono (fun x hx => by
    rcases List.mem_cons.1 hx with e | e
    · exact .inl (List.mem_cons.2 (.inl e))
    · exact .inl (List.mem_cons_of_mem _ (List.mem_cons_of_mem _ e))), hI7, hF7⟩⟩
theorem DecodeBlock_B (kb rd bf d : Nat) (ao : Option Addr) (ov : Bool) (b v : Int) (hb : -2147483648 ≤ b ∧ b < 2147483648) (R : Nat) (E : ByteArray) (hEm : ¬ 0 < E.size) (g cr : Nat) (qs : List (Bc × Nat)) (hC : ColsOK R qs) (rest : List Value) (w : World) (h : Rdr w rd bf d ao (blkB v ov b R (qs.map Prod.fst) ++ rest)) (hk : w.heap[kb]? = some (blkC false 0 0 0)) (ho : Off kb rd bf d ao) (hp : DecPreB w E g cr kb rd bf d ao qs) :
    Calls Tryz.prog 22 #[.pointer (some ⟨kb, 0, none⟩), .pointer (some ⟨rd, 0, none⟩), .int .i64 v, .iface 93 (.slice (some ⟨g, 0, none⟩) qs.length cr)] w fun e w' => e = .returned .nilIface ∧ w'.heap[kb]? = some (blkC (knB v ov) (knI v b) qs.length R) ∧ DecGotB g w w' kb rd bf d ao qs rest := by
  have hkl := lt_of_block hk
  have hF := FeatIn 51903 v
  unfold blkB at h
  by_cases hv : 51903 ≤ v
  · simp only [if_pos hv, knB, knI, List.append_assoc] at h ⊢
    go_enter Tryz.func22, Tryz.ntmps22
    go_wp2_with (first
      | (go_at_call 32; (refine (hF _).mono ?_); rintro e w1 ⟨rfl, rfl⟩)
      | (go_at_call 41; (refine (InfoDecode kb rd bf d ao ov b 0 0 hb _ _ h hk ho).mono ?_); rintro e w2 ⟨rfl, hB2, ao2, hR2, hU2, hI2⟩; have hO2 := ho.step hI2 hkl)
      | (go_at_call 42; (refine (DecodeRawBlock_B kb rd bf d ao2 ov b v R E hEm g cr qs hC rest _ hR2 hB2 hO2 (hp.step hU2 hI2)).mono ?_); rintro e w3 ⟨rfl, hB3, hK3⟩))
    go_ret
    exact ⟨rfl, hB3, DecGotB.trans hU2 hI2 hK3⟩
  · simp only [if_neg hv, List.nil_append, knB, knI] at h ⊢
    go_enter Tryz.func22, Tryz.ntmps22
    go_wp2_with (first
      | (go_at_call 32; (refine (hF _).mono ?_); rintro e w1 ⟨rfl, rfl⟩)
      | (go_at_call 42; (refine (DecodeRawBlock_B kb rd bf d ao false 0 v R E hEm g cr qs hC rest _ h hk ho hp).mono ?_); rintro e w3 ⟨rfl, hB3, hK3⟩))
    go_ret
    exact ⟨rfl, hB3, hK3⟩
theorem bkClosure_B (vb kb rd bf d : Nat) (ao : Option Addr) (ov : Bool) (b v : Int) (hb : -2147483648 ≤ b ∧ b < 2147483648) (R : Nat) (E : ByteArray) (hEm : ¬ 0 < E.size) (g cr : Nat) (qs : List (Bc × Nat)) (hC : ColsOK R qs) (rest : List Value) (w : World) (h : Rdr w rd bf d ao (blkB v ov b R (qs.map Prod.fst) ++ rest)) (hk : w.heap[kb]? = some (blkC false 0 0 0)) (ho : Off kb rd bf d ao) (hp : DecPreB w E g cr kb rd bf d ao qs)
    (hv : w.cell? ⟨vb, 0, none⟩ = some (.int .i64 v)) :
    Calls Tryz.prog 21 #[.pointer (some ⟨kb, 0, none⟩), .pointer (some ⟨rd, 0, none⟩), .iface 93 (.slice (some ⟨g, 0, none⟩) qs.length cr), .pointer (some ⟨vb, 0, none⟩)] w fun e w' => e = .returned .nilIface ∧ w'.heap[kb]? = some (blkC (knB v ov) (knI v b) qs.length R) ∧ DecGotB g w w' kb rd bf d ao qs rest := by
  go_enter Tryz.func21, Tryz.ntmps21
  go_wp2_with (go_at_call 22; (refine (DecodeBlock_B kb rd bf d ao ov b v hb R E hEm g cr qs hC rest _ h hk ho hp).mono ?_); rintro e w1 ⟨rfl, hB1, hK1⟩)
  go_ret
  exact ⟨rfl, hB1, hK1⟩
def bareC (E : ByteArray) (b : Bc) : List Value := [.string E, .int .i64 b.K.kind, .slice none 0 0]
theorem bareC_len (E : ByteArray) (b : Bc) : (bareC E b).length = 3 := rfl
set_option maxHeartbeats 4000000 in
theorem decode_B (E : ByteArray) (fB : FuncId) (hent : ∀ (args : Array Value) (w : World), (callFunc fB args).run Tryz.prog w = .ok (.enter fB args) w) (cap : Value) (ov : Bool) (b : Int) (R : Nat) (bytes rest : List Value) (d o N c : Nat) (ac : Option Addr) (cc : Nat) (bs : List Bc) (hn : bs.length ≤ 10) (hn0 : 0 < bs.length) (hok : ∀ x ∈ bs, OkB x) (hrn : ∀ x ∈ bs, x.rs.length = R) (hnm : ∀ x ∈ bs, 0 < x.nm.size) (hR : R ≤ 20) (w : World)
    (hcv : View w 3 ac bs.length (bs.flatMap (bareC E))) (hr : w.rangeAt d o bytes) (hN : N = bytes.length) (hNc : N ≤ c) (hby : AllBytes bytes) (hdl : d < w.heap.size)
    (hBy : ∀ (kb rd bf g cr : Nat) (qs : List (Bc × Nat)) (W : World), Upd [] w W → qs.map Prod.fst = bs → Rdr W rd bf d none (bytes) → W.heap[kb]? = some (blkC false 0 0 0) → Off kb rd bf d none → DecPreB W E g cr kb rd bf d none qs →
      Calls Tryz.prog fB #[.pointer (some ⟨kb, 0, none⟩), .pointer (some ⟨rd, 0, none⟩), .iface 93 (.slice (some ⟨g, 0, none⟩) bs.length cr), cap] W fun e w' => e = .returned .nilIface ∧ w'.heap[kb]? = some (blkC ov b bs.length R) ∧ DecGotB g W w' kb rd bf d none qs rest) :
    Calls Tryz.prog 20 #[.slice (some ⟨d, o, none⟩) N c, .slice ac bs.length cc, .func (Fn.func fB) #[] #[cap]] w (Decoded w (headV ov b bs.length R) bs rest.length) := by
  obtain ⟨n, hnn⟩ : ∃ n, n = bs.length := ⟨_, rfl⟩
  rw [← hnn] at hn hn0 hcv hBy ⊢
  have HN := Lib.hid hnn
  have HB := Lib.hid hN
  have HRN := Lib.hid hrn
  clear hnn hN hrn
  obtain ⟨k1, u1, s1⟩ := alloc_facts w (Obj.cells #[.bool false, .int .i64 0, .int .i64 0, .int .i64 0] 28)
  obtain ⟨k2, u2, s2⟩ := alloc_facts (w.alloc (Obj.cells #[.bool false, .int .i64 0, .int .i64 0, .int .i64 0] 28)) (Obj.cells #[.bool false] 4)
  go_enter_defers Tryz.func20, Tryz.ntmps20
  go_wp2
  have k1' := u2.at k1 (by simp)
  have u12 := u1.trans u2 (fun _ h => .inl h)
  rw [s1] at k2 s2
  generalize (w.alloc (Obj.cells #[.bool false, .int .i64 0, .int .i64 0, .int .i64 0] 28)).alloc (Obj.cells #[.bool false] 4) = W2 at *
  clear u1 u2 s1 k1
  have hcv2 := hcv.upd u12 (by simp)
  go_loopw [7, 10, 11, 21] (fun a s l i wr => ∃ (k : Nat) (ar al : Option Addr) (cr cl : Nat) (qs : List (Bc × Nat)), k ≤ n ∧ a = .slice none 0 0 ∧ s = .slice ar k cr ∧ l = .slice al k cl ∧ i = .int .i64 k ∧ List.map Prod.fst qs = bs.take k ∧ Row wr 98 2 ar k cr (qs.flatMap (bare E)) ∧ Row wr 79 1 al k cl (qs.flatMap lCells) ∧
      (∀ q ∈ qs, EmpA wr W2.heap.size ar al q) ∧ qs.Pairwise (fun x y => x.2 < y.2) ∧ (∀ q ∈ qs, q.2 < wr.heap.size) ∧ Upd [] W2 wr ∧ In [] W2.heap.size ar ∧ In [] W2.heap.size al ∧ ∀ y, y ∈ bk ar → y ∉ bk al)
    (fun _ _ _ i _ => n - (intOf i).toNat)
  case atStart => exact ⟨0, none, none, 0, 0, [], Nat.zero_le _, rfl, rfl, rfl, rfl, rfl, Row.nil, Row.nil, by simp, List.Pairwise.nil, by simp, Upd.refl _ _, In.nil, In.nil, by simp⟩
  case round =>
    obtain ⟨k, ar, al, cr, cl, qs, hk, rfl, rfl, rfl, rfl, hqs, hRr, hRl, hE, hpw, hql, hU, hIr, hIl, hap⟩ := hrel
    by_cases hlt : k < n
    · have hk0 : ((k : Int) < n) := by omega
      have hkb : k < bs.length := by have := HN.out; omega
      obtain ⟨x, hx⟩ : ∃ x, x = bs[k] := ⟨_, rfl⟩
      have hxm : x ∈ bs := by rw [hx]; exact List.getElem_mem _
      obtain ⟨bb, oo, rfl, hrr, hbb⟩ := (hcv2.upd hU (by simp)).at_ (by omega)
      have hcl := cells_at (bareC E) 3 (bareC_len E) hrr k hkb
      rw [← hx] at hcl
      have d0 := hcl 0 (by omega)
      have d1 := hcl 1 (by omega)
      have d2 := hcl 2 (by omega)
      have hO := hok x hxm
      have hK := hO.ok
      have HX := Lib.hid hx
      clear hx hcl hrr
      simp only [bareC, Nat.add_zero, List.getElem?_cons_zero, List.getElem?_cons_succ] at d0 d1 d2
      obtain ⟨k3, u3, s3⟩ := alloc_facts wr (Obj.cells #[Value.string E, Value.int IntKind.i64 x.K.kind, Value.slice none 0 0] 34)
      obtain ⟨k4, u4, s4⟩ := alloc_facts (wr.alloc (Obj.cells #[Value.string E, Value.int IntKind.i64 x.K.kind, Value.slice none 0 0] 34)) (Obj.cells #[Value.slice none 0 0] x.K.tC)
      have u34 := u3.trans u4 (fun _ h => .inl h)
      have kk := u4.at k3 (by simp)
      rw [s3] at k4 s4
      have hH0 : Hold _ (wr.heap.size + 1) x.K.tC x.K.tE x.K.size none 0 0 [] := ⟨k4, Row.nil, by simp⟩
      have hRl4 := hRl.upd u34 (by simp)
      have hRr4 := hRr.upd u34 (by simp)
      go_wp2_with (first
        | (go_at_call 31; (with_reducible refine (hK.col _).mono ?_); rintro e w1 ⟨rfl, hw1⟩; rw [← hw1] at k4 s4 u34 kk hRl4 hRr4 hH0; clear hw1; try rw [s3]; have S4 := Lib.hid s4; clear s4)
        | (at_builtin; (refine wpList_app1 _ rfl _ _ 94 rfl 79 _ 1 16 Tryz.underlying94 Tryz.info79 rfl (by decide) hRl4 rfl (lCells (x, wr.heap.size + 1)) rfl rfl rfl (by simp [lCells, Value.oneCell']) (by decide) (by omega) ?_); intro al3 cl3 w3 hown3 hupd3 hin3; have e0 : w3.cell? ⟨wr.heap.size, 0, none⟩ = some (.string E) := (by have := hupd3.at kk (fun hx => by have := hRl.lt _ hx; omega); simp [World.cell?, this]))
        | (at_builtin; (refine wpList_app1 _ rfl _ _ 93 rfl 98 _ 2 32 Tryz.underlying93 Tryz.info98 rfl (by decide) (hRr4.upd hupd3 hap) rfl (bare E (x, wr.heap.size + 1)) rfl rfl rfl (by simp [bare, Value.oneCell']) (by decide) (by omega) ?_); intro ar5 cr5 w5 hown5 hupd5 hin5))
      have hs4 := S4.out
      have hws := hU.size
      have hUw1 : Upd [] W2 w1 := hU.trans u34 (fun _ h => .inl h)
      have hUw3 : Upd [] W2 w3 := hUw1.own hupd3 hIl
      have hU5 : Upd [] W2 w5 := hUw3.own hupd5 hIr
      have hs13 := hupd3.size
      have hs35 := hupd5.size
      have hIr5 : In [] W2.heap.size ar5 := hIr.step hin5 hUw3.size
      have hIl3 : In [] W2.heap.size al3 := hIl.step hin3 hUw1.size
      have hrl := hRr.lt
      have hll := hRl.lt
      have hl3 := hown3.lt
      have hap' : ∀ y, y ∈ bk al3 → y ∉ bk ar := fun y hy hx => by
        rcases hin3 y hy with h | h
        · exact hap y hx h
        · have := hrl y hx; omega
      have hap5 : ∀ y, y ∈ bk ar5 → y ∉ bk al3 := fun y hy hx => by
        rcases hin5 y hy with h | h
        · exact hap' y hx h
        · have := hl3 y hx; omega
      have hE1 : ∀ q ∈ qs ++ [(x, wr.heap.size + 1)], EmpA w1 W2.heap.size ar al q := fun q hq => by
        rcases List.mem_append.1 hq with hq | hq
        · exact (hE q hq).upd u34
        · simp at hq
          subst hq
          refine ⟨hH0, by show W2.heap.size ≤ wr.heap.size + 1; omega, fun hx => ?_, fun hx => ?_⟩
          · have := hrl _ hx; omega
          · have := hll _ hx; omega
      have hE5 : ∀ q ∈ qs ++ [(x, wr.heap.size + 1)], EmpA w5 W2.heap.size ar5 al3 q := fun q hq => ((hE1 q hq).stepL hupd3 hin3).stepR hupd5 hin5
      have hpw5 : (qs ++ [(x, wr.heap.size + 1)]).Pairwise (fun x y => x.2 < y.2) := List.pairwise_append.2 ⟨hpw, List.pairwise_singleton _ _, fun a ha y hy => by
        simp at hy
        subst hy
        have := hql a ha
        show a.2 < wr.heap.size + 1
        omega⟩
      have hql5 : ∀ q ∈ qs ++ [(x, wr.heap.size + 1)], q.2 < w5.heap.size := fun q hq => by
        rcases List.mem_append.1 hq with hq | hq
        · have := hql q hq; omega
        · simp at hq
          subst hq
          show wr.heap.size + 1 < _
          omega
      have hRr5 : Row w5 98 2 ar5 (k + 1) cr5 ((qs ++ [(x, wr.heap.size + 1)]).flatMap (bare E)) := by
        rw [List.flatMap_append, List.flatMap_singleton]
        exact hown5
      have hRl5 : Row w5 79 1 al3 (k + 1) cl3 ((qs ++ [(x, wr.heap.size + 1)]).flatMap lCells) := by
        rw [List.flatMap_append, List.flatMap_singleton]
        exact hown3.upd hupd5 hap'
      have hqs5 : (qs ++ [(x, wr.heap.size + 1)]).map Prod.fst = bs.take (k + 1) := by
        rw [List.take_succ_eq_append_getElem hkb, ← HX.out, List.map_append, hqs]
        rfl
      go_roundw
      case rel => exact ⟨k + 1, ar5, al3, cr5, cl3, _, by omega, rfl, rfl, rfl, by go_num, hqs5, hRr5, hRl5, hE5, hpw5, hql5, hU5, hIr5, hIl3, hap5⟩
      case measure => simp [intOf]; omega
    · have hk0 : ¬ ((k : Int) < n) := by omega
      obtain rfl : k = n := by omega
      rw [List.take_of_length_le (by have := HN.out; omega)] at hqs
      go_wp2_with (first
        | (go_at_call 37; (refine (NewReader _ _ _ _).mono ?_); rintro e w3 ⟨rfl, rfl⟩)
        | ((with_reducible show Calls _ fB _ _ _); apply stopHere))
      show Calls _ _ _ _ _
      have hBs := HB.out
      have hqn : qs.length = k := by rw [← List.length_map (f := Prod.fst), hqs]; exact HN.out.symm
      obtain ⟨k3, u3, s3⟩ := alloc_facts wr (Obj.cells #[.bool false, .int .i64 0, .int .i64 0, .int .i64 0] 56)
      obtain ⟨k4, u4, s4⟩ := alloc_facts (wr.alloc (Obj.cells #[.bool false, .int .i64 0, .int .i64 0, .int .i64 0] 56)) (Obj.cells #[.slice none 0 0] 50)
      obtain ⟨k5, u5, s5⟩ := alloc_facts ((wr.alloc (Obj.cells #[.bool false, .int .i64 0, .int .i64 0, .int .i64 0] 56)).alloc (Obj.cells #[.slice none 0 0] 50)) (Obj.cells #[.slice (some ⟨d, o, none⟩) N c, .pointer (some ⟨wr.heap.size + 1, 0, none⟩)] 224)
      have kk3 := u5.at (u4.at k3 (by simp)) (by simp)
      have kk4 := u5.at k4 (by simp)
      have u35 := (u3.trans u4 (fun _ h => .inl h)).trans u5 (fun _ h => .inl h)
      rw [s3] at s4 kk4
      rw [s4] at s5 k5
      generalize ((wr.alloc (Obj.cells #[.bool false, .int .i64 0, .int .i64 0, .int .i64 0] 56)).alloc (Obj.cells #[.slice none 0 0] 50)).alloc (Obj.cells #[.slice (some ⟨d, o, none⟩) N c, .pointer (some ⟨wr.heap.size + 1, 0, none⟩)] 224) = W at *
      clear u3 u4 u5 k3 k4 s3 s4
      have hUW : Upd [] W2 W := hU.trans u35 (fun _ h => .inl h)
      have hwW : Upd [] w W := u12.trans hUW (fun _ h => .inl h)
      have hws := hU.size
      have hw2 := u12.size
      have hrl := hRr.lt
      have hll := hRl.lt
      have hrW := hwW.range hr hdl (by simp)
      have hRd : Rdr W (wr.heap.size + 1 + 1) (wr.heap.size + 1) d none bytes :=
        ⟨⟨o, c, by rw [← HB.out]; exact k5, by rw [← HB.out]; exact hNc, hrW⟩, hby, Nat.lt_of_lt_of_le hdl hwW.size, ⟨0, 0, [], ⟨kk4, Row.nil, by simp⟩⟩, by omega, by omega, by omega, by simp, by simp⟩
      have hOff : Off wr.heap.size (wr.heap.size + 1 + 1) (wr.heap.size + 1) d none := ⟨by omega, by omega, by omega, by simp⟩
      have hnotF : ∀ x, x < wr.heap.size → x ∉ qs.map Prod.snd → x ∉ wr.heap.size :: colF qs (wr.heap.size + 1 + 1) (wr.heap.size + 1) none := fun x hx hq hx' => by
        rcases List.mem_cons.1 hx' with e | e
        · omega
        · rcases List.mem_append.1 e with e | e
          · exact hq e
          · simp [rdF] at e; omega
      obtain ⟨g, rfl⟩ := hRr.head (by omega)
      have hgl := hrl g (by simp)
      have hgW : W2.heap.size ≤ g := (hIr g (by simp)).elim (fun h => by simp at h) id
      have hDP : DecPreB W E g cr wr.heap.size (wr.heap.size + 1 + 1) (wr.heap.size + 1) d none qs := by
        refine ⟨by rw [hqn]; exact hRr.upd u35 (by simp), hnotF g hgl (fun hq => ?_), by omega, fun q hq => ⟨(hE q hq).1.kept u35 (by simp) (by simp), fun hx => ?_⟩, fun q hq e => ?_, fun q hq e => ?_, fun i j hi hj hij => ?_⟩
        · obtain ⟨q, hq, e⟩ := List.mem_map.1 hq
          exact (hE q hq).2.2.1 (by rw [e]; simp)
        · have := hql q hq
          simp [rdF] at hx; omega
        · have := (hE q hq).2.1; omega
        · have := hql q hq; omega
        · have hpg := List.pairwise_iff_getElem.1 hpw
          rcases Nat.lt_or_gt_of_ne hij with h | h
          · have := hpg i j hi hj h; omega
          · have := hpg j i hj hi h; omega
      refine (hBy wr.heap.size (wr.heap.size + 1 + 1) (wr.heap.size + 1) g cr qs W hwW hqs hRd kk3 hOff hDP).mono ?_
      rintro e w6 ⟨rfl, hB6, ao6, hR6, hU6, hI6, hF6⟩
      dsimp only
      have hF1 : ∀ x, x < W2.heap.size → x ∉ wr.heap.size :: colF qs (wr.heap.size + 1 + 1) (wr.heap.size + 1) none := fun x hx => hnotF x (by omega) (fun hq => by
        obtain ⟨q, hq, e⟩ := List.mem_map.1 hq
        have := (hE q hq).2.1
        omega)
      have hF0 : ∀ x, x < W2.heap.size → x ∉ g :: wr.heap.size :: colF qs (wr.heap.size + 1 + 1) (wr.heap.size + 1) none := fun x hx hx' => by
        rcases List.mem_cons.1 hx' with e | e
        · omega
        · exact hF1 x hx e
      have d1 := hU6.at (hUW.at k1' (by simp)) (hF0 _ (by rw [s2]; omega))
      have d2 := hU6.at (hUW.at k2 (by simp)) (hF0 _ (by rw [s2]; omega))
      have hl6 := (hRl.toView.upd u35 (by simp)).upd hU6 (fun x hx hx' => by
        rcases List.mem_cons.1 hx' with e | e
        · exact hap g (by simp) (by rw [← e]; exact hx)
        · exact hnotF x (hll x hx) (fun hq => by
            obtain ⟨q, hq, e⟩ := List.mem_map.1 hq
            exact (hE q hq).2.2.2 (by rw [e]; exact hx)) e)
      have hB6' := rangeAt_blk (cs := [.bool ov, .int .i64 b, .int .i64 k, .int .i64 R]) hB6
      have hkl6 := lt_of_block hB6
      have huA : Upd [] w w6 := hwW.trans hU6 (fun y hy => .inr (by
        rcases List.mem_cons.1 hy with e | hy
        · omega
        rcases List.mem_cons.1 hy with e | e
        · omega
        · rcases List.mem_append.1 e with e | e
          · obtain ⟨q, hq, e⟩ := List.mem_map.1 e
            have := (hE q hq).2.1
            omega
          · simp [rdF] at e; omega))
      have hsw : w.heap.size + 1 < W2.heap.size := by rw [s2]; omega
      have HQ := Lib.hid hqs
      clear hB6 k5 kk3 kk4 hRd hOff hDP hU6 hI6 hqs hrW hE hpw hql hRr hRl hBs
      generalize wr.heap.size = kb at *
      go_wp2
      go_loopw [7, 54] (fun s i wz => ∃ (j : Nat) (av : Option Addr) (cv : Nat) (ws : List (Bc × Option Addr × Nat)), j ≤ k ∧ s = .slice av j cv ∧ i = .int .i64 j ∧ List.map Prod.fst ws = bs.take j ∧ Row wz 32 1 av j cv (ws.flatMap rowCells) ∧
          (∀ x ∈ ws, View wz 4 x.2.1 x.1.rs.length (keptV x.1) ∧ ∀ y, y ∈ bk x.2.1 → y ∉ bk av) ∧ (∀ x ∈ ws, ∀ y, y ∈ bk x.2.1 → w6.heap.size ≤ y ∧ y < wz.heap.size) ∧ Upd [] w6 wz ∧ In [] w6.heap.size av)
        (fun _ i _ => k - (intOf i).toNat)
      case atStart => exact ⟨0, none, 0, [], Nat.zero_le _, rfl, rfl, rfl, Row.nil, by simp, by simp, Upd.refl _ _, In.nil⟩
      case round =>
        obtain ⟨j, av, cv, ws, hj, rfl, rfl, hwsb, hRv, hV, hVl, hUz, hIz⟩ := hrel
        by_cases hjk : j < k
        · have hj0 : ((j : Int) < k) := by omega
          have hjq : j < qs.length := by omega
          obtain ⟨q, hx⟩ : ∃ q, q = qs[j] := ⟨_, rfl⟩
          have hqm : q ∈ qs := by rw [hx]; exact List.getElem_mem _
          obtain ⟨bl, ol, rfl, hrr, hbb⟩ := (hl6.upd hUz (by simp)).at_ (by omega)
          have hcl := cells_at lCells 1 (fun _ => rfl) hrr j hjq 0 (by omega)
          rw [← hx] at hcl
          simp only [lCells, Nat.mul_one, Nat.add_zero, List.getElem?_cons_zero] at hcl
          have hxm : q.1 ∈ bs := by rw [← HQ.out]; exact List.mem_map_of_mem hqm
          have hO := hok q.1 hxm
          obtain ⟨aq, cq, hC6, _, _, _⟩ := hF6 q hqm
          obtain ⟨g, rfl⟩ := hC6.own.head hO.r0
          have hCz : q.1.K.Held wr q.2 (some ⟨g, 0, none⟩) q.1.rs.length cq q.1.rs := hC6.kept hUz (by simp) (by simp)
          have hr20 := hO.r1
          have hall := all_K q.1.K hO.ok q.2 g q.1.rs.length cq q.1.rs wr hO.rok hCz rfl (by omega)
          have hrvl := hRv.lt
          have HX := Lib.hid hx
          clear hx hrr hCz hC6
          go_wp2_with (first
            | (go_at_call 38; (refine hall.mono ?_); rintro e w7 ⟨ao7, c7, rfl, hR7, hU7, hI7⟩)
            | (at_builtin; (refine wpList_app1 _ rfl _ _ 36 rfl 32 _ 1 24 Tryz.underlying36 Tryz.info32 rfl (by decide) (hRv.upd hU7 (by simp)) rfl (rowCells (q.1, ao7, c7)) rfl rfl rfl (by simp [rowCells, Value.oneCell']) (by decide) (by omega) ?_); intro av8 cv8 w8 hown8 hupd8 hin8))
          have hs7 := hU7.size
          have hs8 := hupd8.size
          have hsz6 := hUz.size
          have hU7' : Upd [] w6 w7 := hUz.trans hU7 (fun _ h => .inl h)
          have hU8 : Upd [] w6 w8 := hU7'.own hupd8 hIz
          have hI8 : In [] w6.heap.size av8 := hIz.step hin8 hU7'.size
          have hr7 := hR7.lt
          have hn7 : ∀ y, y ∈ bk ao7 → wr.heap.size ≤ y := fun y hy => (hI7 y hy).elim (fun h => by simp at h) id
          have hVl8 : ∀ x ∈ ws ++ [(q.1, ao7, c7)], ∀ y, y ∈ bk x.2.1 → w6.heap.size ≤ y ∧ y < w8.heap.size := fun x hx y hy => by
            rcases List.mem_append.1 hx with hx | hx
            · have := hVl x hx y hy; omega
            · simp at hx
              subst hx
              have := hr7 y hy
              have := hn7 y hy
              omega
          have hV8 : ∀ x ∈ ws ++ [(q.1, ao7, c7)], View w8 4 x.2.1 x.1.rs.length (keptV x.1) ∧ ∀ y, y ∈ bk x.2.1 → y ∉ bk av8 := fun x hx => by
            rcases List.mem_append.1 hx with hx | hx
            · refine ⟨((hV x hx).1.upd hU7 (by simp)).upd hupd8 (hV x hx).2, fun y hy hy' => ?_⟩
              have := hVl x hx y hy
              rcases hin8 y hy' with h | h
              · exact (hV x hx).2 y hy h
              · omega
            · simp at hx
              subst hx
              have hna : ∀ y, y ∈ bk ao7 → y ∉ bk av := fun y hy hy' => by
                have := hn7 y hy
                have := hrvl y hy'
                omega
              refine ⟨hR7.toView.upd hupd8 hna, fun y hy hy' => ?_⟩
              have := hr7 y hy
              rcases hin8 y hy' with h | h
              · exact hna y hy h
              · omega
          have hRv8 : Row w8 32 1 av8 (j + 1) cv8 ((ws ++ [(q.1, ao7, c7)]).flatMap rowCells) := by
            rw [List.flatMap_append, List.flatMap_singleton]
            exact hown8
          have hws8 : (ws ++ [(q.1, ao7, c7)]).map Prod.fst = bs.take (j + 1) := by
            have hjb : j < bs.length := by have := HN.out; omega
            rw [List.take_succ_eq_append_getElem hjb, List.map_append, hwsb]
            congr 1
            have : bs[j] = q.1 := by
              rw [HX.out]
              simp only [← HQ.out, List.getElem_map]
            rw [this]
            rfl
          go_roundw
          case rel => exact ⟨j + 1, av8, cv8, _, by omega, rfl, by go_num, hws8, hRv8, hV8, hVl8, hU8, hI8⟩
          case measure => simp [intOf]; omega
        · have hj0 : ¬ ((j : Int) < k) := by omega
          obtain rfl : j = k := by omega
          have hBz := hUz.range hB6' hkl6 (by simp)
          have e1z := hUz.at d1 (by simp)
          have e2z := hUz.at d2 (by simp)
          have hRz := hR6.kept hUz (by simp)
          have hs6 := huA.size
          have hkz : kb < wr.heap.size := Nat.lt_of_lt_of_le hkl6 hUz.size
          have hsW := hwW.size
          rw [List.take_of_length_le (by have := HN.out; omega)] at hwsb
          have HWB := Lib.hid hwsb
          clear hwsb d1 d2 hB6' hF6 hnotF hF0 hF1
          go_wp2_with (first
            | ((with_reducible show wpList _ _ _ _ _ _); refine wpList_load_mid rfl 56 (.tmp 15) rfl kb 0 rfl [.bool ov, .int .i64 b, .int .i64 j, .int .i64 R] _ hBz Tryz.underlying56 rfl (by kernel_rfl) ?_)
            | (go_at_call 39; (refine (head_of ov b j R _).mono ?_); rintro e w7 ⟨rfl, hu7⟩; have hR7 := hRz.kept hu7 (by simp); have e1 := hu7.at e1z (by simp); have e2 := hu7.at e2z (by simp))
            | (go_at_call 40; (refine (Left0 _ _ _ _ _ _ hR7).mono ?_); rintro e w8 ⟨rfl, hw8⟩; subst hw8)
            | ((with_reducible show wpList _ _ _ _ _ _); refine wpList_store_blk rfl 28 (.tmp 6) (.tmp 65) rfl (b := w.heap.size) rfl e1 (cs := [.bool ov, .int .i64 b, .int .i64 j, .int .i64 R]) rfl rfl (by kernel_rfl) (by simp [Value.oneCell']) ?_; intro w9 hb9 hu9; simp only [Act.put]; have e3 := hu9.at e2 (by simp); have g3 := cell_of_one e3; have f3 := free_of_one e3))
          have hV9 : Upd [w.heap.size] wr w9 := (hu7.mono (by simp)).trans hu9 (fun _ h => .inl h)
          have hsc := (Upd.refl [w.heap.size + 1] w9).setCell (p := ⟨w.heap.size + 1, 0, none⟩) (Value.bool true) (by simp)
          have hcB := cell_of_one (one_setCell (u := .bool true) e3)
          have z0 : w9.cell? ⟨w.heap.size, 0, none⟩ = some (.bool ov) := (cellAt hb9 0).trans rfl
          have z1 : w9.cell? ⟨w.heap.size, 1, none⟩ = some (.int .i64 b) := (cellAt hb9 1).trans rfl
          have z2 : w9.cell? ⟨w.heap.size, 2, none⟩ = some (.int .i64 j) := (cellAt hb9 2).trans rfl
          have z3 : w9.cell? ⟨w.heap.size, 3, none⟩ = some (.int .i64 R) := (cellAt hb9 3).trans rfl
          have hN0 : ∀ y, w6.heap.size ≤ y → y ∉ [w.heap.size] ∧ y ∉ [w.heap.size + 1] := fun y hy => by
            simp; omega
          have hfin : Decoded w (headV ov b j R) bs rest.length (.returned (.tuple #[headV ov b j R, .slice av j cv, .int .i64 rest.length, .bool true])) (w9.setCell ⟨w.heap.size + 1, 0, none⟩ (.bool true)) := by
            have hjb := HN.out
            refine ⟨av, cv, ws, HWB.out, by rw [← hjb], ?_, fun x hx => ⟨?_, fun y hy => .inr (by have := (hVl x hx y hy).1; omega)⟩, ?_, hIz.le hs6⟩
            · rw [← hjb]
              exact (hRv.upd hV9 (fun y hy => (hN0 y ((hIz y hy).elim (fun h => by simp at h) id)).1)).upd hsc (fun y hy => (hN0 y ((hIz y hy).elim (fun h => by simp at h) id)).2)
            · exact ((hV x hx).1.upd hV9 (fun y hy => (hN0 y (hVl x hx y hy).1).1)).upd hsc (fun y hy => (hN0 y (hVl x hx y hy).1).2)
            · exact ((huA.trans hUz (fun _ h => .inl h)).trans hV9 (fun y hy => .inr (by simp at hy; omega))).trans hsc (fun y hy => .inr (by simp at hy; omega))
          have HF := Lib.hid hfin
          clear hfin hV hVl hRv hwW
          refine leaves_cons (f := 36) (args := #[.pointer (some ⟨w.heap.size + 1, 0, none⟩)]) (by simp) (by simp [go_sem]) ?_
          refine (caught_idle ⟨w.heap.size + 1, 0, none⟩ _).mono ?_
          rintro e u' w'' ⟨rfl, rfl, rfl⟩
          simp [Leaves, settle, results, Tryz.results20, go_sem, hcB, z0, z1, z2, z3]
          exact HF.out
theorem BKDecode_B (E : ByteArray) (hEm : ¬ 0 < E.size) (ov : Bool) (b v : Int) (hb : -2147483648 ≤ b ∧ b < 2147483648) (R : Nat) (hR0 : 0 < R) (hR : R ≤ 20) (d o N c : Nat) (rest : List Value) (ac : Option Addr) (cc : Nat) (bs : List Bc) (hn : bs.length ≤ 10) (hn0 : 0 < bs.length) (hok : ∀ x ∈ bs, OkB x) (hrn : ∀ x ∈ bs, x.rs.length = R) (hnm : ∀ x ∈ bs, 0 < x.nm.size) (w : World)
    (hcv : View w 3 ac bs.length (bs.flatMap (bareC E))) (hr : w.rangeAt d o (blkB v ov b R bs ++ rest)) (hN : N = (blkB v ov b R bs ++ rest).length) (hNc : N ≤ c) (hby : AllBytes rest) (hdl : d < w.heap.size) :
    Calls Tryz.prog 10 #[.slice (some ⟨d, o, none⟩) N c, .int .i64 v, .slice ac bs.length cc] w (Decoded w (headV (knB v ov) (knI v b) bs.length R) bs rest.length) := by
  have hmf : ∀ (fn : Fn) (first cap : Array Value) (w : World), (Instr.makeFunc fn first cap).run Tryz.prog w = .ok (.func fn first cap) w := fun _ _ _ _ => rfl
  obtain ⟨k1, u1, s1⟩ := alloc_facts w (Obj.cells #[.int .i64 v] 3)
  obtain ⟨k2, u2, s2⟩ := alloc_facts (w.alloc (Obj.cells #[.int .i64 v] 3)) (Obj.cells #[.bool false, .int .i64 0, .int .i64 0, .int .i64 0] 28)
  have k1' := cell_of_one (u2.at k1 (by simp))
  have u12 := u1.trans u2 (fun _ h => .inl h)
  rw [s1] at k2 s2
  have hent : ∀ (args : Array Value) (w : World), (callFunc 21 args).run Tryz.prog w = .ok (.enter 21 args) w := fun _ _ => by kernel_rfl
  have hd := decode_B E 21 hent (.pointer (some ⟨w.heap.size, 0, none⟩)) (knB v ov) (knI v b) R (blkB v ov b R bs ++ rest) rest d o N c ac cc bs hn hn0 hok hrn hnm hR _ (hcv.upd u12 (by simp)) (u12.range hr hdl (by simp)) hN hNc ((blkB_bytes hok hn hR).append hby) (Nat.lt_of_lt_of_le hdl u12.size)
    (fun kb rd bf g cr qs W hu hqs hRd hk ho hp => by
      have hql : qs.length = bs.length := by rw [← hqs, List.length_map]
      have hin : ∀ q ∈ qs, q.1 ∈ bs := fun q hq => by rw [← hqs]; exact List.mem_map_of_mem hq
      have hC : ColsOK R qs := ⟨by omega, by omega, fun q hq => hok _ (hin q hq), fun q hq => hrn _ (hin q hq), fun q hq => hnm _ (hin q hq), hR0, hR⟩
      have h := bkClosure_B w.heap.size kb rd bf d none ov b v hb R E hEm g cr qs hC rest W (by rw [hqs]; exact hRd) hk ho hp (hu.cell1 k1' (by simp))
      rw [hql] at h
      exact h)
  obtain ⟨hv, hhv⟩ : ∃ hv, hv = headV (knB v ov) (knI v b) bs.length R := ⟨_, rfl⟩
  obtain ⟨x0, x1, x2, x3, hx⟩ : ∃ x0 x1 x2 x3 : Value, hv = .agg #[x0, x1, x2, x3] ∧ ∀ u ∈ [x0, x1, x2, x3], u.oneCell' = true := ⟨_, _, _, _, by rw [hhv]; exact ⟨rfl, by simp [Value.oneCell']⟩⟩
  rw [← hhv] at hd ⊢
  obtain ⟨rfl, hx1⟩ := hx
  clear hr hN hcv hhv
  go_enter Tryz.func10, Tryz.ntmps10
  go_wp2_with (first
    | (go_at_call 20; (refine hd.mono ?_); rintro e w3 ⟨ao3, c3, ws3, hq3, rfl, hR3, hV3, hu3, hi3⟩; have k3 := hu3.at k2 (by simp))
    | ((with_reducible show wpList _ _ _ _ _ _); refine wpList_store_blk rfl 28 (.tmp 6) (.tmp 14) rfl (b := w.heap.size + 1) rfl k3 (cs := [x0, x1, x2, x3]) rfl rfl (by kernel_rfl) hx1 ?_; intro w4 hb4 hu4; simp only [Act.put]))
  have hn4 : ∀ y, w.heap.size + 1 + 1 ≤ y → y ∉ [w.heap.size + 1] := fun y hy => by simp; omega
  rw [s2] at hi3
  have hV4 : ∀ x ∈ ws3, View w4 4 x.2.1 x.1.rs.length (keptV x.1) ∧ In [] w.heap.size x.2.1 := fun x hx => ⟨(hV3 x hx).1.upd hu4 (fun y hy => hn4 y (((hV3 x hx).2 y hy).elim (fun h => by simp at h) (fun h => by rw [s2] at h; exact h))), (hV3 x hx).2.le u12.size⟩
  have hR4 := hR3.upd hu4 (fun y hy => hn4 y ((hi3 y hy).elim (fun h => by simp at h) id))
  have z0 : w4.cell? ⟨w.heap.size + 1, 0, none⟩ = some x0 := (cellAt hb4 0).trans rfl
  have z1 : w4.cell? ⟨w.heap.size + 1, 1, none⟩ = some x1 := (cellAt hb4 1).trans rfl
  have z2 : w4.cell? ⟨w.heap.size + 1, 2, none⟩ = some x2 := (cellAt hb4 2).trans rfl
  have z3 : w4.cell? ⟨w.heap.size + 1, 3, none⟩ = some x3 := (cellAt hb4 3).trans rfl
  have huA : Upd [] w w4 := (u12.trans hu3 (fun _ h => .inl h)).trans hu4 (fun y hy => .inr (by simp at hy; omega))
  refine bodyPost_ret (v := .tuple #[.agg #[x0, x1, x2, x3], .slice ao3 bs.length c3, .int .i64 rest.length, .bool true]) ?_ rfl ⟨ao3, c3, ws3, hq3, rfl, hR4, hV4, huA, fun y hy => (hi3 y hy).elim (fun h => by simp at h) (fun h => .inr (by omega))⟩
  clear hV4 hV3
  simp [results, Tryz.results10, go_sem, z0, z1, z2, z3]
end Go.Proofs.YteimeeepcfcfcaaGreatDoor
