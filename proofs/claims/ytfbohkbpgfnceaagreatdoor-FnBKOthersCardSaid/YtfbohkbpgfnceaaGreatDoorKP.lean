/- Columns of any kinds are read: Results.DecodeResult. -/
import Derived.Test.YtfbohkbpgfnceaaGreatDoorKO
import Derived.Laws.Strings
namespace Go.Proofs.YtfbohkbpgfnceaaGreatDoor
set_option linter.unusedVariables false
set_option linter.unusedSimpArgs false
open Go Go.RowKit
set_option maxRecDepth 100000 in
set_option maxHeartbeats 400000 in
theorem conflictsEq (s : ByteArray) (w : World) : Calls Tryz.prog 139 #[.string s, .string s] w fun e w' => e = .returned (.bool false) ∧ w' = w := by
  go_enter Tryz.func139, Tryz.ntmps139
  go_wp2
  go_ret
  exact ⟨rfl, rfl⟩
/-- the column of q.1, filled, stands at q.2, and shares nothing with the Reader -/
def Fil (w : World) (B rd bf : Nat) (ao : Option Addr) (q : Bc × Nat) : Prop := ∃ aq c, q.1.K.Held w q.2 aq q.1.rs.length c q.1.rs ∧ In [] B aq ∧ q.2 ∉ rdF rd bf ao ∧ ∀ y, y ∈ bk aq → y ∉ rdF rd bf ao
/-- the column of q.1, empty, stands at q.2, and shares nothing with the Reader -/
def Emp (w : World) (rd bf : Nat) (ao : Option Addr) (q : Bc × Nat) : Prop := Hold w q.2 q.1.K.tC q.1.K.tE q.1.K.size none 0 0 [] ∧ q.2 ∉ rdF rd bf ao
theorem notF_step {x rd bf B : Nat} {ao ao' : Option Addr} (h : x ∉ rdF rd bf ao) (hx : x < B) (hi : In (bk ao) B ao') : x ∉ rdF rd bf ao' := fun hx' => by
  simp only [rdF, List.mem_cons] at h hx'
  rcases hx' with e | e | e
  · exact h (.inl e)
  · exact h (.inr (.inl e))
  · rcases hi x e with h' | h'
    · exact h (.inr (.inr h'))
    · omega
theorem Fil.step {w w' : World} {B rd bf p : Nat} {ao ao' : Option Addr} {q : Bc × Nat} (h : Fil w B rd bf ao q) (hu : Upd (p :: rdF rd bf ao) w w') (hi : In (bk ao) w.heap.size ao') (hp : p < B) (hne : q.2 ≠ p) : Fil w' B rd bf ao' q := by
  obtain ⟨aq, c, h1, h2, h3, h4⟩ := h
  refine ⟨aq, c, h1.kept hu (fun hx => ?_) (fun y hy hx => ?_), h2, notF_step h3 h1.lt hi, fun y hy => notF_step (h4 y hy) (h1.own.lt y hy) hi⟩
  · rcases List.mem_cons.1 hx with e | e
    · exact hne e
    · exact h3 e
  · rcases List.mem_cons.1 hx with e | e
    · rcases h2 y hy with h | h
      · simp at h
      · omega
    · exact h4 y hy e
theorem Emp.step {w w' : World} {rd bf p : Nat} {ao ao' : Option Addr} {q : Bc × Nat} (h : Emp w rd bf ao q) (hu : Upd (p :: rdF rd bf ao) w w') (hi : In (bk ao) w.heap.size ao') (hne : q.2 ≠ p) : Emp w' rd bf ao' q := by
  obtain ⟨h1, h3⟩ := h
  refine ⟨h1.kept hu (fun hx => ?_) (by simp), notF_step h3 h1.lt hi⟩
  rcases List.mem_cons.1 hx with e | e
  · exact hne e
  · exact h3 e
theorem toList_ne (s : ByteArray) (h : 0 < s.size) : s.toList.isEmpty = false := by
  rw [ByteArray.toList_eq]
  cases hl : s.data.toList with
  | nil =>
    have : s.data.toList.length = 0 := by rw [hl]; rfl
    rw [Array.length_toList] at this
    have h2 : s.size = s.data.size := rfl
    omega
  | cons a l => rfl
/-- all that the reading of columns may change -/
abbrev colF (qs : List (Bc × Nat)) (rd bf : Nat) (ao : Option Addr) : List Nat := qs.map Prod.snd ++ rdF rd bf ao
set_option maxRecDepth 100000 in
set_option maxHeartbeats 4000000 in
theorem DecodeResult_K (rd bf d : Nat) (ao : Option Addr) (ov : Bool) (b v : Int) (R : Nat) (hR0 : 0 < R) (hR : R ≤ 20) (ar : Option Addr) (cr : Nat) (qs : List (Bc × Nat)) (hq0 : 0 < qs.length) (hqn : qs.length ≤ 10) (rest : List Value) (w : World)
    (h : Rdr w rd bf d ao (bodyV v (qs.map Prod.fst) ++ rest)) (hok : ∀ q ∈ qs, OkB q.1) (hrn : ∀ q ∈ qs, q.1.rs.length = R) (hnm : ∀ q ∈ qs, 0 < q.1.nm.size)
    (hv : View w 2 ar qs.length (qs.flatMap inCells)) (har : ∀ x, x ∈ bk ar → x ∉ colF qs rd bf ao) (hd : ∀ q ∈ qs, q.2 ≠ d)
    (hE : ∀ q ∈ qs, Emp w rd bf ao q) (hnd : ∀ (i j : Nat) (hi : i < qs.length) (hj : j < qs.length), i ≠ j → qs[i].2 ≠ qs[j].2) :
    Calls Tryz.prog 137 #[.slice ar qs.length cr, .pointer (some ⟨rd, 0, none⟩), .int .i64 v, blkV ov b qs.length R] w fun e w' => e = .returned .nilIface ∧ ∃ ao', Rdr w' rd bf d ao' rest ∧ Upd (colF qs rd bf ao) w w' ∧ In (bk ao) w.heap.size ao' ∧ ∀ q ∈ qs, Fil w' w.heap.size rd bf ao' q := by
  obtain ⟨n, hnn⟩ : ∃ n, n = qs.length := ⟨_, rfl⟩
  rw [← hnn] at hq0 hqn hv ⊢
  have HN := Lib.hid hnn
  clear hnn
  obtain ⟨k1, u1, s1⟩ := alloc_facts w (Obj.cells #[.bool ov, .int .i64 b, .int .i64 n, .int .i64 R] 52)
  have hne0 : ((n : Int) == 0) = false := beq_eq_false_iff_ne.2 (by omega)
  have hneR : ((R : Int) == 0) = false := beq_eq_false_iff_ne.2 (by omega)
  have p2 : (w.alloc (Obj.cells #[.bool ov, .int .i64 b, .int .i64 n, .int .i64 R] 52)).cell? ⟨w.heap.size, 2, none⟩ = some (.int .i64 n) := (cellAt k1 2).trans rfl
  have p3 : (w.alloc (Obj.cells #[.bool ov, .int .i64 b, .int .i64 n, .int .i64 R] 52)).cell? ⟨w.heap.size, 3, none⟩ = some (.int .i64 R) := (cellAt k1 3).trans rfl
  have hlp : ∀ q ∈ qs, q.2 < w.heap.size := fun q hq => (hE q hq).1.lt
  have hnb : w.heap.size ∉ colF qs rd bf ao := fun hx => by
    have h1 := h.ltr
    have h2 := h.ltb
    rcases List.mem_append.1 hx with hx | hx
    · obtain ⟨q, hq, e⟩ := List.mem_map.1 hx
      have := hlp q hq
      omega
    · simp only [rdF, List.mem_cons] at hx
      rcases hx with e | e | e
      · omega
      · omega
      · obtain ⟨n', c', xs', hH⟩ := h.buf
        have := hH.own.lt _ e
        omega
  go_enter Tryz.func137, Tryz.ntmps137
  simp only [blkV]
  go_wp2
  generalize hW0 : (w.alloc (Obj.cells #[.bool ov, .int .i64 b, .int .i64 n, .int .i64 R] 52)) = W0 at *
  have hsz : w.heap.size ≤ W0.heap.size := u1.size
  have h0 := h.kept u1 (by simp)
  have hE0 : ∀ q ∈ qs, Emp W0 rd bf ao q := fun q hq => ⟨(hE q hq).1.kept u1 (by simp) (by simp), (hE q hq).2⟩
  have hv0 := hv.upd u1 (by simp)
  clear hE hv h k1 hW0
  go_loopw [13] (fun i wr => ∃ (k : Nat) (ao' : Option Addr), k ≤ n ∧ i = .int .i64 k ∧ Rdr wr rd bf d ao' (bodyV v ((qs.drop k).map Prod.fst) ++ rest) ∧ Upd (colF qs rd bf ao) W0 wr ∧ In (bk ao) W0.heap.size ao' ∧ (∀ (j : Nat) (hj : j < qs.length), j < k → Fil wr w.heap.size rd bf ao' qs[j]) ∧ ∀ (j : Nat) (hj : j < qs.length), k ≤ j → Emp wr rd bf ao' qs[j])
    (fun i _ => n - (intOf i).toNat)
  case atStart => exact ⟨0, ao, Nat.zero_le _, rfl, h0, Upd.refl _ _, In.self (fun _ h => h), fun j hj h => absurd h (Nat.not_lt_zero _), fun j hj _ => hE0 _ (List.getElem_mem _)⟩
  case round =>
    obtain ⟨k, ao', hk, rfl, hRd, hU, hI, hF, hE⟩ := hrel
    have p2r := hU.cell1 p2 hnb
    have p3r := hU.cell1 p3 hnb
    by_cases hlt : k < n
    · have hk0 : ((k : Int) < n) := by omega
      have hkq : k < qs.length := by have := HN.out; omega
      have hdr : qs.drop k = qs[k] :: qs.drop (k + 1) := List.drop_eq_getElem_cons hkq
      have hEk := hE k hkq (Nat.le_refl _)
      have hndk := fun (j : Nat) (hj : j < qs.length) (hjk : j ≠ k) => hnd j k hj hkq hjk
      obtain ⟨q, hx⟩ : ∃ q, q = qs[k] := ⟨_, rfl⟩
      have hqm : q ∈ qs := by rw [hx]; exact List.getElem_mem _
      have hO := hok q hqm
      have hK := hO.ok
      have hqR := hrn q hqm
      have hqn0 := hnm q hqm
      have hqd := hd q hqm
      have hpl := hlp q hqm
      obtain ⟨bb, o, rfl, hrr, hbb⟩ := hv0.at_ (by omega)
      have hcl := cells_at inCells 2 inCells_len (hU.range hrr hbb (har bb (by simp))) k hkq
      rw [← hx] at hcl hEk hdr hndk
      have d0 := hcl 0 (by omega)
      have d1 := hcl 1 (by omega)
      have HX := Lib.hid hx
      have hqF : q.2 ∈ colF qs rd bf ao := List.mem_append.2 (.inl (List.mem_map_of_mem hqm))
      clear hx hcl hrr
      obtain ⟨x, p⟩ := q
      simp only [inCells, Nat.add_zero, List.getElem?_cons_zero, List.getElem?_cons_succ] at d0 d1 hO hK hqR hqn0 hqd hpl hEk hndk hqF
      obtain ⟨hC, hCn⟩ := hEk
      have hnn1 := hO.n1
      have hnk := hK.nm
      have hnz : x.nm.toList.isEmpty = false := toList_ne _ hqn0
      have hby : bodyV v ((qs.drop k).map Prod.fst) ++ rest = strV x.nm ++ (strV x.K.name ++ ((if 54454 ≤ v then [Value.int .u8 0] else []) ++ (x.rs.flatMap x.K.bytes ++ (bodyV v ((qs.drop (k + 1)).map Prod.fst) ++ rest)))) := by
        rw [hdr]
        simp [bodyV, colV, headB]
      rw [hby] at hRd
      clear hby
      have et := hK.eType
      have es := hK.eReset
      have ed := hK.eDec
      have ta1 := hK.taInfer p
      have ta2 := hK.taStateD p
      have ms := hK.mReset p
      have md := hK.mDec p
      have hFt := FeatIn 54454 v
      have hbF : bb ∉ rdF rd bf ao' := notF_step (fun hh => har bb (by simp) (List.mem_append.2 (.inr hh))) hbb hI
      have hnF : w.heap.size ∉ rdF rd bf ao' := notF_step (fun hh => hnb (List.mem_append.2 (.inr hh))) (by rw [s1]; omega) hI
      have hal : ∀ W : World, (W.alloc (Obj.cells #[.string x.nm, .iface x.K.tI (x.K.V p)] 91)).heap.size = W.heap.size + 1 := fun W => by simp
      by_cases hv5 : 54454 ≤ v
      · rw [if_pos hv5] at hRd
        go_wp2_with (first
          | (go_at_call 75; (with_reducible refine (rdStr rd bf d _ x.nm hqn0 (by omega) _ _ hRd).mono ?_); rintro e w1 ⟨rfl, ao1, hR1, hU1, hI1⟩)
          | (go_at_call 75; (with_reducible refine (rdStr rd bf d _ x.K.name hnk.1 (by omega) _ _ hR1).mono ?_); rintro e w2 ⟨rfl, hZ2⟩; obtain ⟨ao2, hR2, hU2, hI2⟩ := Reads.trans hU1 hI1 hZ2)
          | (go_at_call 24; (refine (hFt _).mono ?_); rintro e w3 ⟨rfl, hw3⟩; subst hw3)
          | (go_at_call 69; (refine (rdBool rd bf d _ false _ _ hR2).mono ?_); rintro e wz ⟨rfl, hZ3⟩; obtain ⟨aoz, hRz, hUz, hIz⟩ := Reads.trans hU2 hI2 hZ3; have e0 := hUz.cell1 d0 hbF; have e1 := hUz.cell1 d1 hbF; have e2 := hUz.cell1 p2r hnF; have e3 := hUz.cell1 p3r hnF; have hCz := hC.kept hUz hCn (by simp); have hpz := hCz.lt; obtain ⟨ka, ua, sa⟩ := alloc_facts wz (Obj.cells #[.string x.nm, .iface x.K.tI (x.K.V p)] 91); have a0 := (cellAt ka 0).trans rfl; have hCa := hCz.kept ua (by simp) (by simp); have hRa := hRz.kept ua (by simp); have mt := hK.mType p _ _ hCa.cell; have hRn := (notF_step hCn hC.lt hIz); have hOff : Off p rd bf d aoz := ⟨fun e => hRn (by simp [rdF, e]), fun e => hRn (by simp [rdF, e]), hqd, fun hh => hRn (by simp [rdF, hh])⟩)
          | ((with_reducible show Calls _ x.K.fType _ _ _); (refine (hK.type _ _).mono ?_); rintro e w4 ⟨rfl, hw4⟩; subst hw4)
          | (go_at_call 139; (refine (conflictsEq _ _).mono ?_); rintro e w4 ⟨rfl, hw4⟩; subst hw4)
          | ((with_reducible show Calls _ x.K.fReset _ _ _); (refine (hK.reset p _ hCa).mono ?_); rintro e w5 ⟨rfl, hC5, hU5⟩; have hR5 := hRa.keptK hU5 hOff; have e35 := hU5.cell1 (ua.cell1 e3 (by simp)) (by simp; omega); have a1 := hU5.cell1 ((cellAt ka 1).trans rfl) (by simp; omega))
          | ((with_reducible show Calls _ x.K.fDec _ _ _); (refine (hK.dec p rd bf d _ R x.rs _ _ hO.rok hR5 hqR hR0 (by omega) hC5 hOff).mono ?_); rintro e w6 ⟨rfl, av, c6, ao6, hH6, hR6, hU6, hI6, hJ6, hD6⟩))
        have hUA : Upd (p :: rdF rd bf ao') wr w6 := by
          refine (((hUz.mono (fun y hy => .inl (List.mem_cons_of_mem _ hy))).trans ua (by simp)).trans hU5 (by simp)).trans hU6 (fun y hy => ?_)
          rcases List.mem_cons.1 hy with e | e
          · exact .inl (by rw [e]; exact List.mem_cons_self)
          · by_cases hyr : y ∈ rdF rd bf ao'
            · exact .inl (List.mem_cons_of_mem _ hyr)
            · refine .inr (Nat.le_of_not_lt fun hlt' => ?_)
              exact notF_step hyr hlt' hIz e
        have hws : wr.heap.size ≤ w5.heap.size := Nat.le_trans hUz.size (Nat.le_trans ua.size hU5.size)
        have hIA : In (bk ao') wr.heap.size ao6 := hIz.step hJ6 hws
        have hws0 : w.heap.size ≤ wr.heap.size := Nat.le_trans hsz hU.size
        have hF6 : ∀ (j : Nat) (hj : j < qs.length), j < k + 1 → Fil w6 w.heap.size rd bf ao6 qs[j] := fun j hj hjk => by
          by_cases hjk' : j < k
          · exact (hF j hj hjk').step hUA hIA hpl (hndk j hj (by omega))
          · obtain rfl : j = k := by omega
            rw [← HX.out]
            refine ⟨av, c6, by rw [hqR]; exact hH6, hI6.le (Nat.le_trans hws0 hws), ?_, hD6⟩
            exact notF_step hCn hC.lt hIA
        have hE6 : ∀ (j : Nat) (hj : j < qs.length), k + 1 ≤ j → Emp w6 rd bf ao6 qs[j] := fun j hj hjk => (hE j hj (by omega)).step hUA hIA (hndk j hj (by omega))
        have hU6' : Upd (colF qs rd bf ao) W0 w6 := hU.trans hUA (fun y hy => by
          rcases List.mem_cons.1 hy with e | e
          · exact .inl (by rw [e]; exact hqF)
          · by_cases hyr : y ∈ rdF rd bf ao
            · exact .inl (List.mem_append.2 (.inr hyr))
            · refine .inr (Nat.le_of_not_lt fun hlt' => ?_)
              exact notF_step hyr hlt' hI e)
        have hI6' : In (bk ao) W0.heap.size ao6 := hI.step hIA hU.size
        clear hF hE
        go_roundw
        case rel => exact ⟨k + 1, ao6, by omega, by go_num, hR6, hU6', hI6', hF6, hE6⟩
        case measure => simp [intOf]; omega
      · rw [if_neg hv5] at hRd
        go_wp2_with (first
          | (go_at_call 75; (with_reducible refine (rdStr rd bf d _ x.nm hqn0 (by omega) _ _ hRd).mono ?_); rintro e w1 ⟨rfl, ao1, hR1, hU1, hI1⟩)
          | (go_at_call 75; (with_reducible refine (rdStr rd bf d _ x.K.name hnk.1 (by omega) _ _ hR1).mono ?_); rintro e wz ⟨rfl, hZ2⟩; obtain ⟨aoz, hRz, hUz, hIz⟩ := Reads.trans hU1 hI1 hZ2; have e0 := hUz.cell1 d0 hbF; have e1 := hUz.cell1 d1 hbF; have e2 := hUz.cell1 p2r hnF; have e3 := hUz.cell1 p3r hnF; have hCz := hC.kept hUz hCn (by simp); have hpz := hCz.lt; obtain ⟨ka, ua, sa⟩ := alloc_facts wz (Obj.cells #[.string x.nm, .iface x.K.tI (x.K.V p)] 91); have a0 := (cellAt ka 0).trans rfl; have hCa := hCz.kept ua (by simp) (by simp); have hRa := hRz.kept ua (by simp); have mt := hK.mType p _ _ hCa.cell; have hRn := (notF_step hCn hC.lt hIz); have hOff : Off p rd bf d aoz := ⟨fun e => hRn (by simp [rdF, e]), fun e => hRn (by simp [rdF, e]), hqd, fun hh => hRn (by simp [rdF, hh])⟩)
          | (go_at_call 24; (refine (hFt _).mono ?_); rintro e w3 ⟨rfl, hw3⟩; subst hw3)
          | ((with_reducible show Calls _ x.K.fType _ _ _); (refine (hK.type _ _).mono ?_); rintro e w4 ⟨rfl, hw4⟩; subst hw4)
          | (go_at_call 139; (refine (conflictsEq _ _).mono ?_); rintro e w4 ⟨rfl, hw4⟩; subst hw4)
          | ((with_reducible show Calls _ x.K.fReset _ _ _); (refine (hK.reset p _ hCa).mono ?_); rintro e w5 ⟨rfl, hC5, hU5⟩; have hR5 := hRa.keptK hU5 hOff; have e35 := hU5.cell1 (ua.cell1 e3 (by simp)) (by simp; omega); have a1 := hU5.cell1 ((cellAt ka 1).trans rfl) (by simp; omega))
          | ((with_reducible show Calls _ x.K.fDec _ _ _); (refine (hK.dec p rd bf d _ R x.rs _ _ hO.rok hR5 hqR hR0 (by omega) hC5 hOff).mono ?_); rintro e w6 ⟨rfl, av, c6, ao6, hH6, hR6, hU6, hI6, hJ6, hD6⟩))
        have hUA : Upd (p :: rdF rd bf ao') wr w6 := by
          refine (((hUz.mono (fun y hy => .inl (List.mem_cons_of_mem _ hy))).trans ua (by simp)).trans hU5 (by simp)).trans hU6 (fun y hy => ?_)
          rcases List.mem_cons.1 hy with e | e
          · exact .inl (by rw [e]; exact List.mem_cons_self)
          · by_cases hyr : y ∈ rdF rd bf ao'
            · exact .inl (List.mem_cons_of_mem _ hyr)
            · refine .inr (Nat.le_of_not_lt fun hlt' => ?_)
              exact notF_step hyr hlt' hIz e
        have hws : wr.heap.size ≤ w5.heap.size := Nat.le_trans hUz.size (Nat.le_trans ua.size hU5.size)
        have hIA : In (bk ao') wr.heap.size ao6 := hIz.step hJ6 hws
        have hws0 : w.heap.size ≤ wr.heap.size := Nat.le_trans hsz hU.size
        have hF6 : ∀ (j : Nat) (hj : j < qs.length), j < k + 1 → Fil w6 w.heap.size rd bf ao6 qs[j] := fun j hj hjk => by
          by_cases hjk' : j < k
          · exact (hF j hj hjk').step hUA hIA hpl (hndk j hj (by omega))
          · obtain rfl : j = k := by omega
            rw [← HX.out]
            refine ⟨av, c6, by rw [hqR]; exact hH6, hI6.le (Nat.le_trans hws0 hws), ?_, hD6⟩
            exact notF_step hCn hC.lt hIA
        have hE6 : ∀ (j : Nat) (hj : j < qs.length), k + 1 ≤ j → Emp w6 rd bf ao6 qs[j] := fun j hj hjk => (hE j hj (by omega)).step hUA hIA (hndk j hj (by omega))
        have hU6' : Upd (colF qs rd bf ao) W0 w6 := hU.trans hUA (fun y hy => by
          rcases List.mem_cons.1 hy with e | e
          · exact .inl (by rw [e]; exact hqF)
          · by_cases hyr : y ∈ rdF rd bf ao
            · exact .inl (List.mem_append.2 (.inr hyr))
            · refine .inr (Nat.le_of_not_lt fun hlt' => ?_)
              exact notF_step hyr hlt' hI e)
        have hI6' : In (bk ao) W0.heap.size ao6 := hI.step hIA hU.size
        clear hF hE
        go_roundw
        case rel => exact ⟨k + 1, ao6, by omega, by go_num, hR6, hU6', hI6', hF6, hE6⟩
        case measure => simp [intOf]; omega
    · have hk0 : ¬ ((k : Int) < n) := by omega
      obtain rfl : k = n := by omega
      rw [List.drop_of_length_le (by have := HN.out; omega)] at hRd
      go_wp2
      go_ret
      refine ⟨rfl, ao', hRd, (u1.mono (by simp)).trans hU (fun _ h => .inl h), hI.le hsz, fun q x hq => ?_⟩
      obtain ⟨j, hj, e⟩ := List.getElem_of_mem hq
      rw [← e]
      exact hF j hj (by have := HN.out; omega)
end Go.Proofs.YtfbohkbpgfnceaaGreatDoor
