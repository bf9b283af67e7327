/- Columns are not read: too many or too few, another name, another type, some bytes lack. -/
import Derived.Test.YtfbohkbpgfnceaaGreatDoorFK
import Derived.Test.YtfbohkbpgfnceaaGreatDoorKP
namespace Go.Proofs.YtfbohkbpgfnceaaGreatDoor
set_option linter.unusedVariables false
set_option linter.unusedSimpArgs false
open Go Go.RowKit
def flagV (v : Int) : List Value := if 54454 ≤ v then [.int .u8 0] else []
set_option maxRecDepth 100000 in
set_option maxHeartbeats 1000000 in
/-- as many columns are asked for as there are not -/
theorem DecodeResult_M (rd : Nat) (ov : Bool) (b v : Int) (c R m : Nat) (hR0 : 0 < R) (hne : c ≠ m) (ar : Option Addr) (cr : Nat) (w : World) :
    Calls Tryz.prog 137 #[.slice ar m cr, .pointer (some ⟨rd, 0, none⟩), .int .i64 v, blkV ov b c R] w fun e w' => (∃ q, e = .returned (er q)) ∧ Upd [] w w' := by
  have hneR : ((R : Int) == 0) = false := beq_eq_false_iff_ne.2 (by omega)
  have hcm : ((c : Int) == m) = false := beq_eq_false_iff_ne.2 (by omega)
  have u1 := (Upd.refl [] w).alloc (Obj.cells #[.bool ov, .int .i64 b, .int .i64 c, .int .i64 R] 52)
  by_cases hm : m = 0
  · subst hm
    go_enter Tryz.func137, Tryz.ntmps137
    simp only [blkV]
    go_wp2_with (go_at_call 65; (refine (errErrorf _ _ _).mono ?_); rintro e w2 ⟨⟨p2, rfl⟩, hu2⟩)
    go_ret
    exact ⟨⟨p2, rfl⟩, (u1.alloc _).trans hu2 (by simp)⟩
  · have hne0 : ((m : Int) == 0) = false := beq_eq_false_iff_ne.2 (by omega)
    go_enter Tryz.func137, Tryz.ntmps137
    simp only [blkV]
    go_wp2_with (go_at_call 65; (refine (errErrorf _ _ _).mono ?_); rintro e w2 ⟨⟨p2, rfl⟩, hu2⟩)
    go_ret
    exact ⟨⟨p2, rfl⟩, (u1.alloc _).trans hu2 (by simp)⟩
theorem toList_neq {a b : ByteArray} (h : a ≠ b) : (a.toList == b.toList) = false := beq_eq_false_iff_ne.2 (fun e => h (by
  rw [ByteArray.toList_eq, ByteArray.toList_eq] at e
  cases a; cases b
  congr 1
  exact Array.toList_inj.1 e))
/-- two types that are told apart -/
def Clash (s t : ByteArray) : Prop := ∀ w : World, Calls Tryz.prog 139 #[.string s, .string t] w fun e w' => e = .returned (.bool true) ∧ Upd [] w w'
/-- bytes of which the column of x is not read -/
def Bad (v : Int) (x : Bc) (tail : List Value) : Prop :=
  (∃ m, m < (strV x.nm).length ∧ tail = (strV x.nm).take m) ∨
  (∃ m, m < (strV x.K.name).length ∧ tail = strV x.nm ++ (strV x.K.name).take m) ∨
  (54454 ≤ v ∧ tail = strV x.nm ++ (strV x.K.name ++ [])) ∨
  (∃ bs, KdShort x.K ∧ bs.length < x.rs.length * x.K.width ∧ tail = strV x.nm ++ (strV x.K.name ++ (flagV v ++ bs))) ∨
  (∃ y t rest, y ≠ x.nm ∧ (0 < y.size ∧ y.size < 128) ∧ (0 < t.size ∧ t.size < 128) ∧ tail = strV y ++ (strV t ++ (flagV v ++ rest))) ∨
  (∃ t rest, Clash t x.K.name ∧ (0 < t.size ∧ t.size < 128) ∧ tail = strV x.nm ++ (strV t ++ (flagV v ++ rest)))
theorem headV_eq (v : Int) (b : Bc) : headB v b = strV b.nm ++ (strV b.K.name ++ flagV v) := by simp [headB, flagV]
/-- a beginning of a column's bytes -/
theorem Bad.cut {v : Int} {x : Bc} (hx : OkB x) (hs : KdShort x.K) (m : Nat) (hm : m < (colV v x).length) : Bad v x ((colV v x).take m) := by
  have hc : colV v x = strV x.nm ++ (strV x.K.name ++ (flagV v ++ x.rs.flatMap x.K.bytes)) := by simp [colV, headV_eq]
  have hrl : (x.rs.flatMap x.K.bytes).length = x.rs.length * x.K.width := flatMap_len _ _ hx.ok.wd _
  rw [hc] at hm ⊢
  simp only [List.length_append] at hm
  by_cases h1 : m < (strV x.nm).length
  · exact .inl ⟨m, h1, by rw [List.take_append_of_le_length (by omega)]⟩
  · obtain ⟨m1, rfl⟩ : ∃ m1, m = (strV x.nm).length + m1 := ⟨m - (strV x.nm).length, by omega⟩
    rw [List.take_length_add_append]
    by_cases h2 : m1 < (strV x.K.name).length
    · exact .inr (.inl ⟨m1, h2, by rw [List.take_append_of_le_length (by omega)]⟩)
    · obtain ⟨m2, rfl⟩ : ∃ m2, m1 = (strV x.K.name).length + m2 := ⟨m1 - (strV x.K.name).length, by omega⟩
      rw [List.take_length_add_append]
      by_cases h3 : m2 < (flagV v).length
      · have hv : 54454 ≤ v := by
          unfold flagV at h3
          split at h3
          · assumption
          · simp at h3
        have h0 : m2 = 0 := by
          unfold flagV at h3
          rw [if_pos hv] at h3
          simp at h3
          exact h3
        subst h0
        exact .inr (.inr (.inl ⟨hv, by rw [List.take_zero]⟩))
      · obtain ⟨m3, rfl⟩ : ∃ m3, m2 = (flagV v).length + m3 := ⟨m2 - (flagV v).length, by omega⟩
        rw [List.take_length_add_append]
        refine .inr (.inr (.inr (.inl ⟨_, hs, ?_, rfl⟩)))
        rw [List.length_take]
        omega
theorem UpdC.fails {w w1 w2 : World} {rd bf : Nat} {ao ao1 : Option Addr} {qs : List (Bc × Nat)} (hU : Upd (colF qs rd bf ao) w w1) (hI : In (bk ao) w.heap.size ao1) (h : Upd (rdF rd bf ao1) w1 w2) : Upd (colF qs rd bf ao) w w2 :=
  hU.trans h (fun y hy => (rdF_step hI y hy).imp (fun h => List.mem_append.2 (.inr h)) id)
set_option maxRecDepth 100000 in
set_option maxHeartbeats 8000000 in
theorem DecodeResult_F (rd bf d : Nat) (ao : Option Addr) (ov : Bool) (b v : Int) (R : Nat) (hR0 : 0 < R) (hR : R ≤ 20) (ar : Option Addr) (cr : Nat) (qs : List (Bc × Nat)) (hqn : qs.length ≤ 10) (jj : Nat) (hjj : jj < qs.length) (tail : List Value) (w : World)
    (h : Rdr w rd bf d ao (bodyV v ((qs.take jj).map Prod.fst) ++ tail)) (hbad : Bad v qs[jj].1 tail) (hok : ∀ q ∈ qs, OkB q.1) (hrn : ∀ q ∈ qs, q.1.rs.length = R) (hnm : ∀ q ∈ qs, 0 < q.1.nm.size)
    (hv : View w 2 ar qs.length (qs.flatMap inCells)) (har : ∀ x, x ∈ bk ar → x ∉ colF qs rd bf ao) (hd : ∀ q ∈ qs, q.2 ≠ d)
    (hE : ∀ q ∈ qs, Emp w rd bf ao q) (hnd : ∀ (i j : Nat) (hi : i < qs.length) (hj : j < qs.length), i ≠ j → qs[i].2 ≠ qs[j].2) :
    Calls Tryz.prog 137 #[.slice ar qs.length cr, .pointer (some ⟨rd, 0, none⟩), .int .i64 v, blkV ov b qs.length R] w fun e w' => (∃ q, e = .returned (er q)) ∧ Upd (colF qs rd bf ao) w w' := by
  obtain ⟨n, hnn⟩ : ∃ n, n = qs.length := ⟨_, rfl⟩
  have hq0 : 0 < qs.length := by omega
  rw [← hnn] at hq0 hqn hv ⊢
  have HN := Lib.hid hnn
  clear hnn
  obtain ⟨k1, u1, s1⟩ := alloc_facts w (Obj.cells #[.bool ov, .int .i64 b, .int .i64 n, .int .i64 R] 52)
  have hne0 : ((n : Int) == 0) = false := beq_eq_false_iff_ne.2 (by omega)
  have hneR : ((R : Int) == 0) = false := beq_eq_false_iff_ne.2 (by omega)
  have p2 : (w.alloc (Obj.cells #[.bool ov, .int .i64 b, .int .i64 n, .int .i64 R] 52)).cell? ⟨w.heap.size, 2, none⟩ = some (.int .i64 n) := (cellAt k1 2).trans rfl
  have p3 : (w.alloc (Obj.cells #[.bool ov, .int .i64 b, .int .i64 n, .int .i64 R] 52)).cell? ⟨w.heap.size, 3, none⟩ = some (.int .i64 R) := (cellAt k1 3).trans rfl
  have hlp : ∀ q ∈ qs, q.2 < w.heap.size := fun q hq => (hE q hq).1.lt
  have hnb : w.heap.size ∉ colF qs rd bf ao := fun hx => by
    have h1 := h.ltr
    have h2 := h.ltb
    rcases List.mem_append.1 hx with hx | hx
    · obtain ⟨q, hq, e⟩ := List.mem_map.1 hx
      have := hlp q hq
      omega
    · simp only [rdF, List.mem_cons] at hx
      rcases hx with e | e | e
      · omega
      · omega
      · obtain ⟨n', c', xs', hH⟩ := h.buf
        have := hH.own.lt _ e
        omega
  go_enter Tryz.func137, Tryz.ntmps137
  simp only [blkV]
  go_wp2
  generalize hW0 : (w.alloc (Obj.cells #[.bool ov, .int .i64 b, .int .i64 n, .int .i64 R] 52)) = W0 at *
  have hsz : w.heap.size ≤ W0.heap.size := u1.size
  have h0 := h.kept u1 (by simp)
  have hE0 : ∀ q ∈ qs, Emp W0 rd bf ao q := fun q hq => ⟨(hE q hq).1.kept u1 (by simp) (by simp), (hE q hq).2⟩
  have hv0 := hv.upd u1 (by simp)
  clear hE hv h k1 hW0
  go_loopw [13] (fun i wr => ∃ (k : Nat) (ao' : Option Addr), k ≤ jj ∧ i = .int .i64 k ∧ Rdr wr rd bf d ao' (bodyV v (((qs.take jj).drop k).map Prod.fst) ++ tail) ∧ Upd (colF qs rd bf ao) W0 wr ∧ In (bk ao) W0.heap.size ao' ∧ ∀ (j : Nat) (hj : j < qs.length), k ≤ j → Emp wr rd bf ao' qs[j])
    (fun i _ => n - (intOf i).toNat)
  case atStart => exact ⟨0, ao, Nat.zero_le _, rfl, h0, Upd.refl _ _, In.self (fun _ h => h), fun j hj _ => hE0 _ (List.getElem_mem _)⟩
  case round =>
    obtain ⟨k, ao', hk, rfl, hRd, hU, hI, hE⟩ := hrel
    have p2r := hU.cell1 p2 hnb
    have p3r := hU.cell1 p3 hnb
    have hlt : k < n := by have := HN.out; omega
    have hk0 : ((k : Int) < n) := by omega
    have hkq : k < qs.length := by have := HN.out; omega
    have hEk := hE k hkq (Nat.le_refl _)
    have hndk := fun (j : Nat) (hj : j < qs.length) (hjk : j ≠ k) => hnd j k hj hkq hjk
    by_cases hkj : k < jj
    · have hdr : (qs.take jj).drop k = qs[k] :: (qs.take jj).drop (k + 1) := by
        have hkt : k < (qs.take jj).length := by rw [List.length_take]; omega
        rw [List.drop_eq_getElem_cons hkt, List.getElem_take]
      obtain ⟨q, hx⟩ : ∃ q, q = qs[k] := ⟨_, rfl⟩
      have hqm : q ∈ qs := by rw [hx]; exact List.getElem_mem _
      have hO := hok q hqm
      have hK := hO.ok
      have hqR := hrn q hqm
      have hqn0 := hnm q hqm
      have hqd := hd q hqm
      have hpl := hlp q hqm
      obtain ⟨bb, o, rfl, hrr, hbb⟩ := hv0.at_ (by omega)
      have hcl := cells_at inCells 2 inCells_len (hU.range hrr hbb (har bb (by simp))) k hkq
      rw [← hx] at hcl hEk hdr hndk
      have d0 := hcl 0 (by omega)
      have d1 := hcl 1 (by omega)
      have HX := Lib.hid hx
      have hqF : q.2 ∈ colF qs rd bf ao := List.mem_append.2 (.inl (List.mem_map_of_mem hqm))
      clear hx hcl hrr
      obtain ⟨x, p⟩ := q
      simp only [inCells, Nat.add_zero, List.getElem?_cons_zero, List.getElem?_cons_succ] at d0 d1 hO hK hqR hqn0 hqd hpl hEk hndk hqF
      obtain ⟨hC, hCn⟩ := hEk
      have hnn1 := hO.n1
      have hnk := hK.nm
      have hnz : x.nm.toList.isEmpty = false := toList_ne _ hqn0
      have hby : bodyV v (((qs.take jj).drop k).map Prod.fst) ++ tail = strV x.nm ++ (strV x.K.name ++ ((if 54454 ≤ v then [Value.int .u8 0] else []) ++ (x.rs.flatMap x.K.bytes ++ (bodyV v (((qs.take jj).drop (k + 1)).map Prod.fst) ++ tail)))) := by
        rw [hdr]
        simp [bodyV, colV, headB]
      rw [hby] at hRd
      clear hby
      have et := hK.eType
      have es := hK.eReset
      have ed := hK.eDec
      have ta1 := hK.taInfer p
      have ta2 := hK.taStateD p
      have ms := hK.mReset p
      have md := hK.mDec p
      have hFt := FeatIn 54454 v
      have hbF : bb ∉ rdF rd bf ao' := notF_step (fun hh => har bb (by simp) (List.mem_append.2 (.inr hh))) hbb hI
      have hnF : w.heap.size ∉ rdF rd bf ao' := notF_step (fun hh => hnb (List.mem_append.2 (.inr hh))) (by rw [s1]; omega) hI
      have hal : ∀ W : World, (W.alloc (Obj.cells #[.string x.nm, .iface x.K.tI (x.K.V p)] 91)).heap.size = W.heap.size + 1 := fun W => by simp
      by_cases hv5 : 54454 ≤ v
      · rw [if_pos hv5] at hRd
        go_wp2_with (first
          | (go_at_call 75; (with_reducible refine (rdStr rd bf d _ x.nm hqn0 (by omega) _ _ hRd).mono ?_); rintro e w1 ⟨rfl, ao1, hR1, hU1, hI1⟩)
          | (go_at_call 75; (with_reducible refine (rdStr rd bf d _ x.K.name hnk.1 (by omega) _ _ hR1).mono ?_); rintro e w2 ⟨rfl, hZ2⟩; obtain ⟨ao2, hR2, hU2, hI2⟩ := Reads.trans hU1 hI1 hZ2)
          | (go_at_call 24; (refine (hFt _).mono ?_); rintro e w3 ⟨rfl, hw3⟩; subst hw3)
          | (go_at_call 69; (refine (rdBool rd bf d _ false _ _ hR2).mono ?_); rintro e wz ⟨rfl, hZ3⟩; obtain ⟨aoz, hRz, hUz, hIz⟩ := Reads.trans hU2 hI2 hZ3; have e0 := hUz.cell1 d0 hbF; have e1 := hUz.cell1 d1 hbF; have e2 := hUz.cell1 p2r hnF; have e3 := hUz.cell1 p3r hnF; have hCz := hC.kept hUz hCn (by simp); have hpz := hCz.lt; obtain ⟨ka, ua, sa⟩ := alloc_facts wz (Obj.cells #[.string x.nm, .iface x.K.tI (x.K.V p)] 91); have a0 := (cellAt ka 0).trans rfl; have hCa := hCz.kept ua (by simp) (by simp); have hRa := hRz.kept ua (by simp); have mt := hK.mType p _ _ hCa.cell; have hRn := (notF_step hCn hC.lt hIz); have hOff : Off p rd bf d aoz := ⟨fun e => hRn (by simp [rdF, e]), fun e => hRn (by simp [rdF, e]), hqd, fun hh => hRn (by simp [rdF, hh])⟩)
          | ((with_reducible show Calls _ x.K.fType _ _ _); (refine (hK.type _ _).mono ?_); rintro e w4 ⟨rfl, hw4⟩; subst hw4)
          | (go_at_call 139; (refine (conflictsEq _ _).mono ?_); rintro e w4 ⟨rfl, hw4⟩; subst hw4)
          | ((with_reducible show Calls _ x.K.fReset _ _ _); (refine (hK.reset p _ hCa).mono ?_); rintro e w5 ⟨rfl, hC5, hU5⟩; have hR5 := hRa.keptK hU5 hOff; have e35 := hU5.cell1 (ua.cell1 e3 (by simp)) (by simp; omega); have a1 := hU5.cell1 ((cellAt ka 1).trans rfl) (by simp; omega))
          | ((with_reducible show Calls _ x.K.fDec _ _ _); (refine (hK.dec p rd bf d _ R x.rs _ _ hO.rok hR5 hqR hR0 (by omega) hC5 hOff).mono ?_); rintro e w6 ⟨rfl, av, c6, ao6, hH6, hR6, hU6, hI6, hJ6, hD6⟩))
        have hUA : Upd (p :: rdF rd bf ao') wr w6 := by
          refine (((hUz.mono (fun y hy => .inl (List.mem_cons_of_mem _ hy))).trans ua (by simp)).trans hU5 (by simp)).trans hU6 (fun y hy => ?_)
          rcases List.mem_cons.1 hy with e | e
          · exact .inl (by rw [e]; exact List.mem_cons_self)
          · by_cases hyr : y ∈ rdF rd bf ao'
            · exact .inl (List.mem_cons_of_mem _ hyr)
            · refine .inr (Nat.le_of_not_lt fun hlt' => ?_)
              exact notF_step hyr hlt' hIz e
        have hws : wr.heap.size ≤ w5.heap.size := Nat.le_trans hUz.size (Nat.le_trans ua.size hU5.size)
        have hIA : In (bk ao') wr.heap.size ao6 := hIz.step hJ6 hws
        have hws0 : w.heap.size ≤ wr.heap.size := Nat.le_trans hsz hU.size
        have hE6 : ∀ (j : Nat) (hj : j < qs.length), k + 1 ≤ j → Emp w6 rd bf ao6 qs[j] := fun j hj hjk => (hE j hj (by omega)).step hUA hIA (hndk j hj (by omega))
        have hU6' : Upd (colF qs rd bf ao) W0 w6 := hU.trans hUA (fun y hy => by
          rcases List.mem_cons.1 hy with e | e
          · exact .inl (by rw [e]; exact hqF)
          · by_cases hyr : y ∈ rdF rd bf ao
            · exact .inl (List.mem_append.2 (.inr hyr))
            · refine .inr (Nat.le_of_not_lt fun hlt' => ?_)
              exact notF_step hyr hlt' hI e)
        have hI6' : In (bk ao) W0.heap.size ao6 := hI.step hIA hU.size
        clear hE
        go_roundw
        case rel => exact ⟨k + 1, ao6, by omega, by go_num, hR6, hU6', hI6', hE6⟩
        case measure => simp [intOf]; omega
      · rw [if_neg hv5] at hRd
        go_wp2_with (first
          | (go_at_call 75; (with_reducible refine (rdStr rd bf d _ x.nm hqn0 (by omega) _ _ hRd).mono ?_); rintro e w1 ⟨rfl, ao1, hR1, hU1, hI1⟩)
          | (go_at_call 75; (with_reducible refine (rdStr rd bf d _ x.K.name hnk.1 (by omega) _ _ hR1).mono ?_); rintro e wz ⟨rfl, hZ2⟩; obtain ⟨aoz, hRz, hUz, hIz⟩ := Reads.trans hU1 hI1 hZ2; have e0 := hUz.cell1 d0 hbF; have e1 := hUz.cell1 d1 hbF; have e2 := hUz.cell1 p2r hnF; have e3 := hUz.cell1 p3r hnF; have hCz := hC.kept hUz hCn (by simp); have hpz := hCz.lt; obtain ⟨ka, ua, sa⟩ := alloc_facts wz (Obj.cells #[.string x.nm, .iface x.K.tI (x.K.V p)] 91); have a0 := (cellAt ka 0).trans rfl; have hCa := hCz.kept ua (by simp) (by simp); have hRa := hRz.kept ua (by simp); have mt := hK.mType p _ _ hCa.cell; have hRn := (notF_step hCn hC.lt hIz); have hOff : Off p rd bf d aoz := ⟨fun e => hRn (by simp [rdF, e]), fun e => hRn (by simp [rdF, e]), hqd, fun hh => hRn (by simp [rdF, hh])⟩)
          | (go_at_call 24; (refine (hFt _).mono ?_); rintro e w3 ⟨rfl, hw3⟩; subst hw3)
          | ((with_reducible show Calls _ x.K.fType _ _ _); (refine (hK.type _ _).mono ?_); rintro e w4 ⟨rfl, hw4⟩; subst hw4)
          | (go_at_call 139; (refine (conflictsEq _ _).mono ?_); rintro e w4 ⟨rfl, hw4⟩; subst hw4)
          | ((with_reducible show Calls _ x.K.fReset _ _ _); (refine (hK.reset p _ hCa).mono ?_); rintro e w5 ⟨rfl, hC5, hU5⟩; have hR5 := hRa.keptK hU5 hOff; have e35 := hU5.cell1 (ua.cell1 e3 (by simp)) (by simp; omega); have a1 := hU5.cell1 ((cellAt ka 1).trans rfl) (by simp; omega))
          | ((with_reducible show Calls _ x.K.fDec _ _ _); (refine (hK.dec p rd bf d _ R x.rs _ _ hO.rok hR5 hqR hR0 (by omega) hC5 hOff).mono ?_); rintro e w6 ⟨rfl, av, c6, ao6, hH6, hR6, hU6, hI6, hJ6, hD6⟩))
        have hUA : Upd (p :: rdF rd bf ao') wr w6 := by
          refine (((hUz.mono (fun y hy => .inl (List.mem_cons_of_mem _ hy))).trans ua (by simp)).trans hU5 (by simp)).trans hU6 (fun y hy => ?_)
          rcases List.mem_cons.1 hy with e | e
          · exact .inl (by rw [e]; exact List.mem_cons_self)
          · by_cases hyr : y ∈ rdF rd bf ao'
            · exact .inl (List.mem_cons_of_mem _ hyr)
            · refine .inr (Nat.le_of_not_lt fun hlt' => ?_)
              exact notF_step hyr hlt' hIz e
        have hws : wr.heap.size ≤ w5.heap.size := Nat.le_trans hUz.size (Nat.le_trans ua.size hU5.size)
        have hIA : In (bk ao') wr.heap.size ao6 := hIz.step hJ6 hws
        have hws0 : w.heap.size ≤ wr.heap.size := Nat.le_trans hsz hU.size
        have hE6 : ∀ (j : Nat) (hj : j < qs.length), k + 1 ≤ j → Emp w6 rd bf ao6 qs[j] := fun j hj hjk => (hE j hj (by omega)).step hUA hIA (hndk j hj (by omega))
        have hU6' : Upd (colF qs rd bf ao) W0 w6 := hU.trans hUA (fun y hy => by
          rcases List.mem_cons.1 hy with e | e
          · exact .inl (by rw [e]; exact hqF)
          · by_cases hyr : y ∈ rdF rd bf ao
            · exact .inl (List.mem_append.2 (.inr hyr))
            · refine .inr (Nat.le_of_not_lt fun hlt' => ?_)
              exact notF_step hyr hlt' hI e)
        have hI6' : In (bk ao) W0.heap.size ao6 := hI.step hIA hU.size
        clear hE
        go_roundw
        case rel => exact ⟨k + 1, ao6, by omega, by go_num, hR6, hU6', hI6', hE6⟩
        case measure => simp [intOf]; omega
    · obtain rfl : k = jj := by omega
      rw [List.drop_of_length_le (by rw [List.length_take]; omega), List.map_nil, show bodyV v ([] : List Bc) = [] from rfl, List.nil_append] at hRd
      obtain ⟨q, hx⟩ : ∃ q, q = qs[k] := ⟨_, rfl⟩
      have hqm : q ∈ qs := by rw [hx]; exact List.getElem_mem _
      have hO := hok q hqm
      have hK := hO.ok
      have hqR := hrn q hqm
      have hqn0 := hnm q hqm
      have hqd := hd q hqm
      have hpl := hlp q hqm
      obtain ⟨bb, o, rfl, hrr, hbb⟩ := hv0.at_ (by omega)
      have hcl := cells_at inCells 2 inCells_len (hU.range hrr hbb (har bb (by simp))) k hkq
      rw [← hx] at hcl hEk hndk hbad
      have d0 := hcl 0 (by omega)
      have d1 := hcl 1 (by omega)
      have HX := Lib.hid hx
      have hqF : q.2 ∈ colF qs rd bf ao := List.mem_append.2 (.inl (List.mem_map_of_mem hqm))
      clear hx hcl hrr
      obtain ⟨x, p⟩ := q
      simp only [inCells, Nat.add_zero, List.getElem?_cons_zero, List.getElem?_cons_succ] at d0 d1 hO hK hqR hqn0 hqd hpl hEk hndk hqF hbad
      obtain ⟨hC, hCn⟩ := hEk
      have hnn1 := hO.n1
      have hnk := hK.nm
      have hnz : x.nm.toList.isEmpty = false := toList_ne _ hqn0
      have et := hK.eType
      have es := hK.eReset
      have ed := hK.eDec
      have ta1 := hK.taInfer p
      have ta2 := hK.taStateD p
      have ms := hK.mReset p
      have md := hK.mDec p
      have hFt := FeatIn 54454 v
      have hbF : bb ∉ rdF rd bf ao' := notF_step (fun hh => har bb (by simp) (List.mem_append.2 (.inr hh))) hbb hI
      have hnF : w.heap.size ∉ rdF rd bf ao' := notF_step (fun hh => hnb (List.mem_append.2 (.inr hh))) (by rw [s1]; omega) hI
      have hal : ∀ W : World, (W.alloc (Obj.cells #[.string x.nm, .iface x.K.tI (x.K.V p)] 91)).heap.size = W.heap.size + 1 := fun W => by simp
      rcases hbad with ⟨m, hm, rfl⟩ | ⟨m, hm, rfl⟩ | ⟨hv5, rfl⟩ | ⟨bs, hsh, hbl, rfl⟩ | ⟨y, t, rest, hne, hy, ht, rfl⟩ | ⟨t, rest, hcl, ht, rfl⟩
      · go_wp2_with (first
          | (go_at_call 75; (with_reducible refine (shStr rd bf d _ x.nm hqn0 (by omega) m hm _ hRd).mono ?_); rintro e w1 ⟨⟨z1, p1, rfl⟩, hV1⟩)
          | (go_at_call 67; (refine (errWrapf p1 _ _ _).mono ?_); rintro e w9 ⟨⟨p9, rfl⟩, hu9⟩))
        go_ret
        refine ⟨⟨p9, rfl⟩, (u1.mono (by simp)).trans ?_ (fun _ h => .inl h)⟩
        exact UpdC.fails hU hI ((hV1.alloc _).trans hu9 (by simp))
      · go_wp2_with (first
          | (go_at_call 75; (with_reducible refine (rdStr rd bf d _ x.nm hqn0 (by omega) _ _ hRd).mono ?_); rintro e w1 ⟨rfl, ao1, hR1, hU1, hI1⟩)
          | (go_at_call 75; (with_reducible refine (shStr rd bf d _ x.K.name hnk.1 (by omega) m hm _ hR1).mono ?_); rintro e w2 ⟨⟨z1, p1, rfl⟩, hV2⟩)
          | (go_at_call 67; (refine (errWrapf p1 _ _ _).mono ?_); rintro e w9 ⟨⟨p9, rfl⟩, hu9⟩))
        go_ret
        refine ⟨⟨p9, rfl⟩, (u1.mono (by simp)).trans ?_ (fun _ h => .inl h)⟩
        exact UpdC.fails hU hI (((hU1.trans hV2 (rdF_step hI1)).alloc _).trans hu9 (by simp))
      · go_wp2_with (first
          | (go_at_call 75; (with_reducible refine (rdStr rd bf d _ x.nm hqn0 (by omega) _ _ hRd).mono ?_); rintro e w1 ⟨rfl, ao1, hR1, hU1, hI1⟩)
          | (go_at_call 75; (with_reducible refine (rdStr rd bf d _ x.K.name hnk.1 (by omega) _ _ hR1).mono ?_); rintro e w2 ⟨rfl, hZ2⟩; obtain ⟨ao2, hR2, hU2, hI2⟩ := Reads.trans hU1 hI1 hZ2)
          | (go_at_call 24; (refine (hFt _).mono ?_); rintro e w3 ⟨rfl, hw3⟩; subst hw3)
          | (go_at_call 69; (refine (shBool rd bf d _ _ hR2).mono ?_); rintro e wz ⟨⟨p1, rfl⟩, hS3⟩)
          | (go_at_call 67; (refine (errWrapf p1 _ _ _).mono ?_); rintro e w9 ⟨⟨p9, rfl⟩, hu9⟩))
        go_ret
        refine ⟨⟨p9, rfl⟩, (u1.mono (by simp)).trans ?_ (fun _ h => .inl h)⟩
        exact UpdC.fails hU hI (((hU2.trans hS3.upd (rdF_step hI2)).alloc _).trans hu9 (by simp))
      · have hbl : bs.length < R * x.K.width := by rw [← hqR]; exact hbl
        by_cases hv5 : 54454 ≤ v
        · rw [flagV, if_pos hv5] at hRd
          go_wp2_with (first
            | (go_at_call 75; (with_reducible refine (rdStr rd bf d _ x.nm hqn0 (by omega) _ _ hRd).mono ?_); rintro e w1 ⟨rfl, ao1, hR1, hU1, hI1⟩)
            | (go_at_call 75; (with_reducible refine (rdStr rd bf d _ x.K.name hnk.1 (by omega) _ _ hR1).mono ?_); rintro e w2 ⟨rfl, hZ2⟩; obtain ⟨ao2, hR2, hU2, hI2⟩ := Reads.trans hU1 hI1 hZ2)
            | (go_at_call 24; (refine (hFt _).mono ?_); rintro e w3 ⟨rfl, hw3⟩; subst hw3)
            | (go_at_call 69; (refine (rdBool rd bf d _ false _ _ hR2).mono ?_); rintro e wz ⟨rfl, hZ3⟩; obtain ⟨aoz, hRz, hUz, hIz⟩ := Reads.trans hU2 hI2 hZ3; have e0 := hUz.cell1 d0 hbF; have e1 := hUz.cell1 d1 hbF; have e2 := hUz.cell1 p2r hnF; have e3 := hUz.cell1 p3r hnF; have hCz := hC.kept hUz hCn (by simp); have hpz := hCz.lt; obtain ⟨ka, ua, sa⟩ := alloc_facts wz (Obj.cells #[.string x.nm, .iface x.K.tI (x.K.V p)] 91); have a0 := (cellAt ka 0).trans rfl; have hCa := hCz.kept ua (by simp) (by simp); have hRa := hRz.kept ua (by simp); have mt := hK.mType p _ _ hCa.cell; have hRn := (notF_step hCn hC.lt hIz); have hOff : Off p rd bf d aoz := ⟨fun e => hRn (by simp [rdF, e]), fun e => hRn (by simp [rdF, e]), hqd, fun hh => hRn (by simp [rdF, hh])⟩)
            | ((with_reducible show Calls _ x.K.fType _ _ _); (refine (hK.type _ _).mono ?_); rintro e w4 ⟨rfl, hw4⟩; subst hw4)
            | (go_at_call 139; (refine (conflictsEq _ _).mono ?_); rintro e w4 ⟨rfl, hw4⟩; subst hw4)
            | ((with_reducible show Calls _ x.K.fReset _ _ _); (refine (hK.reset p _ hCa).mono ?_); rintro e w5 ⟨rfl, hC5, hU5⟩; have hR5 := hRa.keptK hU5 hOff; have e35 := hU5.cell1 (ua.cell1 e3 (by simp)) (by simp; omega); have a1 := hU5.cell1 ((cellAt ka 1).trans rfl) (by simp; omega))
            | ((with_reducible show Calls _ x.K.fDec _ _ _); (refine (hsh p rd bf d _ R _ _ hR5 hbl hR0 (by omega)).mono ?_); rintro e w6 ⟨⟨p1, rfl⟩, hU6⟩)
            | (go_at_call 27; (refine (errWrap p1 _ _).mono ?_); rintro e w9 ⟨⟨p9, rfl⟩, hu9⟩))
          go_ret
          refine ⟨⟨p9, rfl⟩, (u1.mono (by simp)).trans ?_ (fun _ h => .inl h)⟩
          exact (by
            have hUA : Upd (p :: rdF rd bf ao') wr w6 := by
              refine (((hUz.mono (fun y hy => .inl (List.mem_cons_of_mem _ hy))).trans ua (by simp)).trans hU5 (by simp)).trans hU6 (fun y hy => ?_)
              by_cases hyr : y ∈ rdF rd bf ao'
              · exact .inl (List.mem_cons_of_mem _ hyr)
              · refine .inr (Nat.le_of_not_lt fun hlt' => ?_)
                exact notF_step hyr hlt' hIz hy
            refine (hU.trans hUA (fun y hy => ?_)).trans hu9 (by simp)
            rcases List.mem_cons.1 hy with e | e
            · exact .inl (by rw [e]; exact hqF)
            · by_cases hyr : y ∈ rdF rd bf ao
              · exact .inl (List.mem_append.2 (.inr hyr))
              · refine .inr (Nat.le_of_not_lt fun hlt' => ?_)
                exact notF_step hyr hlt' hI e)

        · rw [flagV, if_neg hv5, List.nil_append] at hRd
          go_wp2_with (first
            | (go_at_call 75; (with_reducible refine (rdStr rd bf d _ x.nm hqn0 (by omega) _ _ hRd).mono ?_); rintro e w1 ⟨rfl, ao1, hR1, hU1, hI1⟩)
            | (go_at_call 75; (with_reducible refine (rdStr rd bf d _ x.K.name hnk.1 (by omega) _ _ hR1).mono ?_); rintro e wz ⟨rfl, hZ2⟩; obtain ⟨aoz, hRz, hUz, hIz⟩ := Reads.trans hU1 hI1 hZ2; have e0 := hUz.cell1 d0 hbF; have e1 := hUz.cell1 d1 hbF; have e2 := hUz.cell1 p2r hnF; have e3 := hUz.cell1 p3r hnF; have hCz := hC.kept hUz hCn (by simp); have hpz := hCz.lt; obtain ⟨ka, ua, sa⟩ := alloc_facts wz (Obj.cells #[.string x.nm, .iface x.K.tI (x.K.V p)] 91); have a0 := (cellAt ka 0).trans rfl; have hCa := hCz.kept ua (by simp) (by simp); have hRa := hRz.kept ua (by simp); have mt := hK.mType p _ _ hCa.cell; have hRn := (notF_step hCn hC.lt hIz); have hOff : Off p rd bf d aoz := ⟨fun e => hRn (by simp [rdF, e]), fun e => hRn (by simp [rdF, e]), hqd, fun hh => hRn (by simp [rdF, hh])⟩)
            | (go_at_call 24; (refine (hFt _).mono ?_); rintro e w3 ⟨rfl, hw3⟩; subst hw3)
            | ((with_reducible show Calls _ x.K.fType _ _ _); (refine (hK.type _ _).mono ?_); rintro e w4 ⟨rfl, hw4⟩; subst hw4)
            | (go_at_call 139; (refine (conflictsEq _ _).mono ?_); rintro e w4 ⟨rfl, hw4⟩; subst hw4)
            | ((with_reducible show Calls _ x.K.fReset _ _ _); (refine (hK.reset p _ hCa).mono ?_); rintro e w5 ⟨rfl, hC5, hU5⟩; have hR5 := hRa.keptK hU5 hOff; have e35 := hU5.cell1 (ua.cell1 e3 (by simp)) (by simp; omega); have a1 := hU5.cell1 ((cellAt ka 1).trans rfl) (by simp; omega))
            | ((with_reducible show Calls _ x.K.fDec _ _ _); (refine (hsh p rd bf d _ R _ _ hR5 hbl hR0 (by omega)).mono ?_); rintro e w6 ⟨⟨p1, rfl⟩, hU6⟩)
            | (go_at_call 27; (refine (errWrap p1 _ _).mono ?_); rintro e w9 ⟨⟨p9, rfl⟩, hu9⟩))
          go_ret
          refine ⟨⟨p9, rfl⟩, (u1.mono (by simp)).trans ?_ (fun _ h => .inl h)⟩
          exact (by
            have hUA : Upd (p :: rdF rd bf ao') wr w6 := by
              refine (((hUz.mono (fun y hy => .inl (List.mem_cons_of_mem _ hy))).trans ua (by simp)).trans hU5 (by simp)).trans hU6 (fun y hy => ?_)
              by_cases hyr : y ∈ rdF rd bf ao'
              · exact .inl (List.mem_cons_of_mem _ hyr)
              · refine .inr (Nat.le_of_not_lt fun hlt' => ?_)
                exact notF_step hyr hlt' hIz hy
            refine (hU.trans hUA (fun y hy => ?_)).trans hu9 (by simp)
            rcases List.mem_cons.1 hy with e | e
            · exact .inl (by rw [e]; exact hqF)
            · by_cases hyr : y ∈ rdF rd bf ao
              · exact .inl (List.mem_append.2 (.inr hyr))
              · refine .inr (Nat.le_of_not_lt fun hlt' => ?_)
                exact notF_step hyr hlt' hI e)
      · have hne1 : (x.nm.toList == y.toList) = false := toList_neq (fun e => hne e.symm)
        by_cases hv5 : 54454 ≤ v
        · rw [flagV, if_pos hv5] at hRd
          go_wp2_with (first
            | (go_at_call 75; (with_reducible refine (rdStr rd bf d _ y hy.1 (by omega) _ _ hRd).mono ?_); rintro e w1 ⟨rfl, ao1, hR1, hU1, hI1⟩)
            | (go_at_call 75; (with_reducible refine (rdStr rd bf d _ t ht.1 (by omega) _ _ hR1).mono ?_); rintro e w2 ⟨rfl, hZ2⟩; obtain ⟨ao2, hR2, hU2, hI2⟩ := Reads.trans hU1 hI1 hZ2)
            | (go_at_call 24; (refine (hFt _).mono ?_); rintro e w3 ⟨rfl, hw3⟩; subst hw3)
            | (go_at_call 69; (refine (rdBool rd bf d _ false _ _ hR2).mono ?_); rintro e wz ⟨rfl, hZ3⟩; obtain ⟨aoz, hRz, hUz, hIz⟩ := Reads.trans hU2 hI2 hZ3; have e0 := hUz.cell1 d0 hbF; have e1 := hUz.cell1 d1 hbF; have e2 := hUz.cell1 p2r hnF; have e3 := hUz.cell1 p3r hnF; have hCz := hC.kept hUz hCn (by simp); have hpz := hCz.lt; obtain ⟨ka, ua, sa⟩ := alloc_facts wz (Obj.cells #[.string x.nm, .iface x.K.tI (x.K.V p)] 91); have a0 := (cellAt ka 0).trans rfl; have hCa := hCz.kept ua (by simp) (by simp); have hRa := hRz.kept ua (by simp); have mt := hK.mType p _ _ hCa.cell; have hRn := (notF_step hCn hC.lt hIz); have hOff : Off p rd bf d aoz := ⟨fun e => hRn (by simp [rdF, e]), fun e => hRn (by simp [rdF, e]), hqd, fun hh => hRn (by simp [rdF, hh])⟩)
            | (go_at_call 65; (refine (errErrorf _ _ _).mono ?_); rintro e w9 ⟨⟨p9, rfl⟩, hu9⟩))
          go_ret
          refine ⟨⟨p9, rfl⟩, (u1.mono (by simp)).trans ?_ (fun _ h => .inl h)⟩
          exact UpdC.fails hU hI ((((hUz.trans ua (by simp))).alloc _).trans hu9 (by simp))

        · rw [flagV, if_neg hv5, List.nil_append] at hRd
          go_wp2_with (first
            | (go_at_call 75; (with_reducible refine (rdStr rd bf d _ y hy.1 (by omega) _ _ hRd).mono ?_); rintro e w1 ⟨rfl, ao1, hR1, hU1, hI1⟩)
            | (go_at_call 75; (with_reducible refine (rdStr rd bf d _ t ht.1 (by omega) _ _ hR1).mono ?_); rintro e wz ⟨rfl, hZ2⟩; obtain ⟨aoz, hRz, hUz, hIz⟩ := Reads.trans hU1 hI1 hZ2; have e0 := hUz.cell1 d0 hbF; have e1 := hUz.cell1 d1 hbF; have e2 := hUz.cell1 p2r hnF; have e3 := hUz.cell1 p3r hnF; have hCz := hC.kept hUz hCn (by simp); have hpz := hCz.lt; obtain ⟨ka, ua, sa⟩ := alloc_facts wz (Obj.cells #[.string x.nm, .iface x.K.tI (x.K.V p)] 91); have a0 := (cellAt ka 0).trans rfl; have hCa := hCz.kept ua (by simp) (by simp); have hRa := hRz.kept ua (by simp); have mt := hK.mType p _ _ hCa.cell; have hRn := (notF_step hCn hC.lt hIz); have hOff : Off p rd bf d aoz := ⟨fun e => hRn (by simp [rdF, e]), fun e => hRn (by simp [rdF, e]), hqd, fun hh => hRn (by simp [rdF, hh])⟩)
            | (go_at_call 24; (refine (hFt _).mono ?_); rintro e w3 ⟨rfl, hw3⟩; subst hw3)
            | (go_at_call 65; (refine (errErrorf _ _ _).mono ?_); rintro e w9 ⟨⟨p9, rfl⟩, hu9⟩))
          go_ret
          refine ⟨⟨p9, rfl⟩, (u1.mono (by simp)).trans ?_ (fun _ h => .inl h)⟩
          exact UpdC.fails hU hI ((((hUz.trans ua (by simp))).alloc _).trans hu9 (by simp))
      · by_cases hv5 : 54454 ≤ v
        · rw [flagV, if_pos hv5] at hRd
          go_wp2_with (first
            | (go_at_call 75; (with_reducible refine (rdStr rd bf d _ x.nm hqn0 (by omega) _ _ hRd).mono ?_); rintro e w1 ⟨rfl, ao1, hR1, hU1, hI1⟩)
            | (go_at_call 75; (with_reducible refine (rdStr rd bf d _ t ht.1 (by omega) _ _ hR1).mono ?_); rintro e w2 ⟨rfl, hZ2⟩; obtain ⟨ao2, hR2, hU2, hI2⟩ := Reads.trans hU1 hI1 hZ2)
            | (go_at_call 24; (refine (hFt _).mono ?_); rintro e w3 ⟨rfl, hw3⟩; subst hw3)
            | (go_at_call 69; (refine (rdBool rd bf d _ false _ _ hR2).mono ?_); rintro e wz ⟨rfl, hZ3⟩; obtain ⟨aoz, hRz, hUz, hIz⟩ := Reads.trans hU2 hI2 hZ3; have e0 := hUz.cell1 d0 hbF; have e1 := hUz.cell1 d1 hbF; have e2 := hUz.cell1 p2r hnF; have e3 := hUz.cell1 p3r hnF; have hCz := hC.kept hUz hCn (by simp); have hpz := hCz.lt; obtain ⟨ka, ua, sa⟩ := alloc_facts wz (Obj.cells #[.string x.nm, .iface x.K.tI (x.K.V p)] 91); have a0 := (cellAt ka 0).trans rfl; have hCa := hCz.kept ua (by simp) (by simp); have hRa := hRz.kept ua (by simp); have mt := hK.mType p _ _ hCa.cell; have hRn := (notF_step hCn hC.lt hIz); have hOff : Off p rd bf d aoz := ⟨fun e => hRn (by simp [rdF, e]), fun e => hRn (by simp [rdF, e]), hqd, fun hh => hRn (by simp [rdF, hh])⟩)
            | ((with_reducible show Calls _ x.K.fType _ _ _); (refine (hK.type _ _).mono ?_); rintro e w4 ⟨rfl, hw4⟩; subst hw4)
            | (go_at_call 139; (refine (hcl _).mono ?_); rintro e w5 ⟨rfl, hu5⟩)
            | (go_at_call 65; (refine (errErrorf _ _ _).mono ?_); rintro e w9 ⟨⟨p9, rfl⟩, hu9⟩))
          go_ret
          refine ⟨⟨p9, rfl⟩, (u1.mono (by simp)).trans ?_ (fun _ h => .inl h)⟩
          exact UpdC.fails hU hI ((((hUz.trans ua (by simp)).trans hu5 (by simp)).alloc _).trans hu9 (by simp))

        · rw [flagV, if_neg hv5, List.nil_append] at hRd
          go_wp2_with (first
            | (go_at_call 75; (with_reducible refine (rdStr rd bf d _ x.nm hqn0 (by omega) _ _ hRd).mono ?_); rintro e w1 ⟨rfl, ao1, hR1, hU1, hI1⟩)
            | (go_at_call 75; (with_reducible refine (rdStr rd bf d _ t ht.1 (by omega) _ _ hR1).mono ?_); rintro e wz ⟨rfl, hZ2⟩; obtain ⟨aoz, hRz, hUz, hIz⟩ := Reads.trans hU1 hI1 hZ2; have e0 := hUz.cell1 d0 hbF; have e1 := hUz.cell1 d1 hbF; have e2 := hUz.cell1 p2r hnF; have e3 := hUz.cell1 p3r hnF; have hCz := hC.kept hUz hCn (by simp); have hpz := hCz.lt; obtain ⟨ka, ua, sa⟩ := alloc_facts wz (Obj.cells #[.string x.nm, .iface x.K.tI (x.K.V p)] 91); have a0 := (cellAt ka 0).trans rfl; have hCa := hCz.kept ua (by simp) (by simp); have hRa := hRz.kept ua (by simp); have mt := hK.mType p _ _ hCa.cell; have hRn := (notF_step hCn hC.lt hIz); have hOff : Off p rd bf d aoz := ⟨fun e => hRn (by simp [rdF, e]), fun e => hRn (by simp [rdF, e]), hqd, fun hh => hRn (by simp [rdF, hh])⟩)
            | (go_at_call 24; (refine (hFt _).mono ?_); rintro e w3 ⟨rfl, hw3⟩; subst hw3)
            | ((with_reducible show Calls _ x.K.fType _ _ _); (refine (hK.type _ _).mono ?_); rintro e w4 ⟨rfl, hw4⟩; subst hw4)
            | (go_at_call 139; (refine (hcl _).mono ?_); rintro e w5 ⟨rfl, hu5⟩)
            | (go_at_call 65; (refine (errErrorf _ _ _).mono ?_); rintro e w9 ⟨⟨p9, rfl⟩, hu9⟩))
          go_ret
          refine ⟨⟨p9, rfl⟩, (u1.mono (by simp)).trans ?_ (fun _ h => .inl h)⟩
          exact UpdC.fails hU hI ((((hUz.trans ua (by simp)).trans hu5 (by simp)).alloc _).trans hu9 (by simp))
end Go.Proofs.YtfbohkbpgfnceaaGreatDoor
