/- A block of columns of any kinds is encoded. -/
import Derived.Test.YtfbohkbpgfnceaaGreatDoorKJ
namespace Go.Proofs.YtfbohkbpgfnceaaGreatDoor
set_option linter.unusedVariables false
set_option linter.unusedSimpArgs false
open Go Go.RowKit
/-- the bytes of a column of a block -/
def colV (v : Int) (b : Bc) : List Value := headB v b ++ b.rs.flatMap b.K.bytes
def bodyV (v : Int) (bs : List Bc) : List Value := bs.flatMap (colV v)
theorem colV_len {v : Int} {b : Bc} (h : OkB b) : (colV v b).length ≤ 800 := by
  have h1 := headB_len v b
  have h2 := h.ok.nm
  have h3 := h.n1
  have h4 := h.r1
  have h5 := h.ok.wd1
  have h6 : (b.rs.flatMap b.K.bytes).length = b.rs.length * b.K.width := flatMap_len _ _ h.ok.wd _
  have h7 : b.rs.length * b.K.width ≤ 20 * 32 := Nat.mul_le_mul h4 h5
  unfold colV
  rw [List.length_append, h6]
  omega
theorem bodyV_len {v : Int} : ∀ {bs : List Bc}, (∀ b ∈ bs, OkB b) → (bodyV v bs).length ≤ bs.length * 800 := by
  intro bs
  induction bs with
  | nil => intro _; simp [bodyV]
  | cons b bs ih =>
    intro h
    have h1 := ih (fun b hb => h b (List.mem_cons_of_mem _ hb))
    have h2 := colV_len (v := v) (h b (List.mem_cons_self))
    have : bodyV v (b :: bs) = colV v b ++ bodyV v bs := by simp [bodyV]
    rw [this, List.length_append, List.length_cons]
    omega
/-- the column of q.1, filled, stands at q.2, and shares nothing with the buffer -/
def Sep (w : World) (bp : Nat) (ao : Option Addr) (q : Bc × Nat) : Prop := ∃ aq c, q.1.K.Held w q.2 aq q.1.rs.length c q.1.rs ∧ q.2 ∉ bp :: bk ao ∧ ∀ y, y ∈ bk aq → y ∉ bp :: bk ao
theorem Sep.upd {w w' : World} {bp : Nat} {ao : Option Addr} {q : Bc × Nat} (h : Sep w bp ao q) (hu : Upd [] w w') : Sep w' bp ao q := by
  obtain ⟨aq, c, h1, h2, h3⟩ := h
  exact ⟨aq, c, h1.kept hu (by simp) (by simp), h2, h3⟩
theorem Sep.gr {w w' : World} {bp : Nat} {ao ao' : Option Addr} {n c : Nat} {ys : List Value} {q : Bc × Nat} (h : Sep w bp ao q) (hg : Gr w bp ao w' ao' n c ys) : Sep w' bp ao' q := by
  obtain ⟨aq, c, h1, h2, h3⟩ := h
  have hl := h1.lt
  refine ⟨aq, c, h1.kept hg.upd h2 h3, fun hx => ?_, fun y hy hx => ?_⟩
  · rcases List.mem_cons.1 hx with e | e
    · exact h2 (List.mem_cons.2 (.inl e))
    · rcases hg.inn _ e with h | h
      · exact h2 (List.mem_cons_of_mem _ h)
      · omega
  · have := h1.own.lt y hy
    rcases List.mem_cons.1 hx with e | e
    · exact h3 y hy (List.mem_cons.2 (.inl e))
    · rcases hg.inn _ e with h | h
      · exact h3 y hy (List.mem_cons_of_mem _ h)
      · omega
set_option maxRecDepth 100000 in
set_option maxHeartbeats 2000000 in
theorem EncodeRawBlock_K (bp : Nat) (ao : Option Addr) (m cp : Nat) (bs : List Value) (ov : Bool) (b v : Int) (R : Nat) (hR : R ≤ 20) (ai : Option Addr) (ci : Nat) (qs : List (Bc × Nat)) (hqn : qs.length ≤ 10) (w : World) (h : Hold w bp 46 5 1 ao m cp bs) (hm : m ≤ 10000)
    (hi : View w 2 ai qs.length (qs.flatMap inCells)) (hia : ∀ x, x ∈ bk ai → x ∉ bp :: bk ao) (hok : ∀ q ∈ qs, OkB q.1) (hrn : ∀ q ∈ qs, q.1.rs.length = R) (hs : ∀ q ∈ qs, Sep w bp ao q) :
    Calls Tryz.prog 26 #[blkV ov b qs.length R, .pointer (some ⟨bp, 0, none⟩), .int .i64 v, .slice ai qs.length ci] w fun e w' => e = .returned .nilIface ∧ Grew w w' bp 46 5 1 ao (m + (2 + (bodyV v (qs.map Prod.fst)).length)) (bs ++ ([.int .u8 qs.length, .int .u8 R] ++ bodyV v (qs.map Prod.fst))) := by
  obtain ⟨n, hnn⟩ : ∃ n, n = qs.length := ⟨_, rfl⟩
  rw [← hnn] at hqn hi ⊢
  have HN := Lib.hid hnn
  clear hnn
  obtain ⟨k1, u1, s1⟩ := alloc_facts w (Obj.cells #[.bool ov, .int .i64 b, .int .i64 n, .int .i64 R] 52)
  have hG0 := Gr.start (h.kept u1 (by simp) (by simp))
  have hlt := h.lt
  have hbl := h.own.lt
  have hnb : w.heap.size ∉ bp :: bk ao := fun hx => by
    rcases List.mem_cons.1 hx with e | e
    · omega
    · have := hbl _ e; omega
  have hi1 := hi.upd u1 (by simp)
  have hs1 : ∀ q ∈ qs, Sep _ bp ao q := fun q hq => (hs q hq).upd u1
  have hblt : bp < (w.alloc (Obj.cells #[.bool ov, .int .i64 b, .int .i64 n, .int .i64 R] 52)).heap.size := by rw [s1]; omega
  have p2 : (w.alloc (Obj.cells #[.bool ov, .int .i64 b, .int .i64 n, .int .i64 R] 52)).cell? ⟨w.heap.size, 2, none⟩ = some (.int .i64 n) := (cellAt k1 2).trans rfl
  have p3 : (w.alloc (Obj.cells #[.bool ov, .int .i64 b, .int .i64 n, .int .i64 R] 52)).cell? ⟨w.heap.size, 3, none⟩ = some (.int .i64 R) := (cellAt k1 3).trans rfl
  go_enter Tryz.func26, Tryz.ntmps26
  simp only [blkV]
  go_wp2_with (first
    | (go_at_call 64; (with_reducible refine (PutInt1 bp _ _ _ _ (n : Int) _ hG0.hold (by omega) (by omega) (by omega)).mono ?_); rintro e w1 ⟨rfl, ao1, c1, hH1, hU1, hI1⟩; have hG1 := hG0.step hH1 hU1 hI1; have q3 := hG1.upd.cell1 p3 hnb)
    | (go_at_call 64; (with_reducible refine (PutInt1 bp _ _ _ _ (R : Int) _ hG1.hold (by omega) (by omega) (by omega)).mono ?_); rintro e w2 ⟨rfl, ao2, c2, hH2, hU2, hI2⟩; have hG2 := hG1.step hH2 hU2 hI2))
  have hG2' : Gr (w.alloc (Obj.cells #[.bool ov, .int .i64 b, .int .i64 n, .int .i64 R] 52)) bp ao w2 ao2 (m + (2 + (bodyV v ((qs.take 0).map Prod.fst)).length)) c2 (bs ++ ([.int .u8 n, .int .u8 R] ++ bodyV v ((qs.take 0).map Prod.fst))) := by
    simpa [bodyV, Nat.add_assoc] using hG2
  clear hG1 hG2 hH1 hH2 hU1 hU2 hI1 hI2 q3
  go_loopw [27] (fun i wr => ∃ (k : Nat) (ao' : Option Addr) (c' : Nat), k ≤ n ∧ i = .int .i64 k ∧ Gr (w.alloc (Obj.cells #[.bool ov, .int .i64 b, .int .i64 n, .int .i64 R] 52)) bp ao wr ao' (m + (2 + (bodyV v ((qs.take k).map Prod.fst)).length)) c' (bs ++ ([.int .u8 n, .int .u8 R] ++ bodyV v ((qs.take k).map Prod.fst))))
    (fun i _ => n - (intOf i).toNat)
  case atStart => exact ⟨0, ao2, c2, Nat.zero_le _, rfl, hG2'⟩
  case round =>
    clear hG2'
    obtain ⟨k, ao', c', hk, rfl, hG⟩ := hrel
    by_cases hlt : k < n
    · have hk0 : ((k : Int) < n) := by omega
      have hkq : k < qs.length := by have := HN.out; omega
      have hl8 : (bodyV v ((qs.take k).map Prod.fst)).length ≤ 8000 := by
        have := bodyV_len (v := v) (bs := (qs.take k).map Prod.fst) (fun x hx => by
          obtain ⟨q, hq, rfl⟩ := List.mem_map.1 hx
          exact hok q (List.mem_of_mem_take hq))
        rw [List.length_map, List.length_take] at this
        omega
      obtain ⟨q, hx⟩ : ∃ q, q = qs[k] := ⟨_, rfl⟩
      have hqm : q ∈ qs := by rw [hx]; exact List.getElem_mem _
      have hO := hok q hqm
      have hK := hO.ok
      have hqR := hrn q hqm
      have hS := (hs1 q hqm).gr hG
      obtain ⟨bb, o, rfl, hrr, hbb⟩ := hi1.at_ (by omega)
      have hcl := cells_at inCells 2 inCells_len (hG.upd.range hrr hbb (hia bb (by simp))) k hkq
      rw [← hx] at hcl
      have d0 := hcl 0 (by omega)
      have d1 := hcl 1 (by omega)
      have p3r := hG.upd.cell1 p3 hnb
      have HX := Lib.hid hx
      have hw0 : w.heap.size < wr.heap.size := by have := hG.upd.size; rw [s1] at this; omega
      obtain ⟨N, hN⟩ : ∃ N, N = (bodyV v ((qs.take k).map Prod.fst)).length := ⟨_, rfl⟩
      rw [← hN] at hl8
      have hNN := Lib.hid hN
      clear hx hcl hrr
      have hnm := hO.n1
      have hnk := hK.nm
      have hr0 := hO.r0
      obtain ⟨x, p⟩ := q
      simp only [inCells, Nat.add_zero, List.getElem?_cons_zero, List.getElem?_cons_succ] at d0 d1 hO hK hqR hS hnm hnk hr0
      obtain ⟨aq, cq, hC, hCn, hCa⟩ := hS
      rw [hqR] at hC hr0
      have hne0 : ((R : Int) == 0) = false := beq_eq_false_iff_ne.2 (by omega)
      have er := hK.eRows
      have ee := hK.eEnc
      have ta1 := hK.taPrep p
      have ta2 := hK.taState p
      obtain ⟨kq, uq, sq⟩ := alloc_facts wr (Obj.cells #[.string x.nm, .iface x.K.tI (x.K.V p)] 78)
      have hGa : Gr wr bp ao' _ ao' _ c' _ := ⟨hG.hold.kept uq (by simp) (by simp), uq.mono (by simp), In.self (fun _ h => h)⟩
      have hCq := uq.cell1 hC.cell (by simp)
      have mr1 := hK.mRows p _ _ hCq
      have rq := rangeAt_blk (cs := [.string x.nm, .iface x.K.tI (x.K.V p)]) kq
      have p3a := uq.cell1 p3r (by simp)
      have hqb : wr.heap.size ∉ bp :: bk ao' := fun hx => by
        rcases List.mem_cons.1 hx with e | e
        · have := hG.hold.lt; omega
        · have := hG.hold.own.lt _ e; omega
      have hql : wr.heap.size < (wr.alloc (Obj.cells #[.string x.nm, .iface x.K.tI (x.K.V p)] 78)).heap.size := by rw [sq]; omega
      go_wp2_with (first
        | ((with_reducible show Calls _ x.K.fRows _ _ _); (refine (hK.rows _ _ _ _).mono ?_); rintro e w3 ⟨rfl, rfl⟩)
        | ((with_reducible show wpList _ _ _ _ _ _); refine wpList_load_mid rfl 78 (.tmp 10) rfl wr.heap.size 0 rfl [.string x.nm, .iface x.K.tI (x.K.V p)] _ rq Tryz.underlying78 rfl (by kernel_rfl) ?_)
        | (go_at_call 66; (refine (EncodeStart_K (x, p) hK hnm _ _ _ bp _ _ _ _ v _ hGa.hold hCq hCn (by omega)).mono ?_); rintro e w4 ⟨rfl, ao4, c4, hH4, hU4, hI4⟩; have hG4 := hGa.step hH4 hU4 hI4; have mr4 := hK.mRows p w4 _ (hU4.cell1 hCq hCn); have me4 := hK.mEnc p w4 _ (hU4.cell1 hCq hCn); have z1 : w4.cell? ⟨wr.heap.size, 1, none⟩ = some (.iface x.K.tI (x.K.V p)) := hU4.range rq hql hqb 1 _ rfl; have hC4 := (hC.kept uq (by simp) (by simp)).kept hU4 hCn hCa; have hap4 : Apart aq bp ao4 := (fun y hy => ⟨fun e => hCa y hy (by simp [e]), fun hx => by
            have := hC.own.lt y hy
            rcases hI4 y hx with h | h
            · exact hCa y hy (List.mem_cons_of_mem _ h)
            · rw [sq] at h; omega⟩))
        | ((with_reducible show Calls _ x.K.fEnc _ _ _); (refine (hK.enc _ _ _ x.rs bp _ _ _ _ _ hC4.own.toView hO.rok hG4.hold hap4 hC4.own.lt hr0 (by omega) (by have := headB_len v x; omega)).mono ?_); rintro e w5 ⟨rfl, ao5, c5, hH5, hU5, hI5⟩; have hG5 := hG4.step hH5 hU5 hI5))
      have hGz : Gr (w.alloc (Obj.cells #[.bool ov, .int .i64 b, .int .i64 n, .int .i64 R] 52)) bp ao w5 ao5 (m + (2 + (bodyV v ((qs.take (k + 1)).map Prod.fst)).length)) c5 (bs ++ ([.int .u8 n, .int .u8 R] ++ bodyV v ((qs.take (k + 1)).map Prod.fst))) := by
        have hbs : bodyV v ((qs.take (k + 1)).map Prod.fst) = bodyV v ((qs.take k).map Prod.fst) ++ colV v x := by
          rw [List.take_succ_eq_append_getElem hkq, ← HX.out]
          simp [bodyV]
        have hrl : (x.rs.flatMap x.K.bytes).length = R * x.K.width := by rw [flatMap_len _ _ hK.wd, hqR]
        have h6 := hG.step hG5.hold hG5.upd hG5.inn
        rw [hbs]
        simp only [List.length_append, colV, hrl, hNN.out.symm] at h6 ⊢
        rw [show m + (2 + (N + ((headB v x).length + R * x.K.width))) = m + (2 + N) + (headB v x).length + R * x.K.width by omega]
        simpa only [List.append_assoc] using h6
      go_roundw
      case rel => exact ⟨k + 1, ao5, c5, by omega, by go_num, hGz⟩
      case measure => simp [intOf]; omega
    · have hk0 : ¬ ((k : Int) < n) := by omega
      obtain rfl : k = n := by omega
      rw [List.take_of_length_le (by have := HN.out; omega)] at hG
      go_wp2
      go_ret
      exact ⟨rfl, hG.grew u1⟩
/-- the bytes of a raw block -/
def rawV (v : Int) (R : Nat) (bs : List Bc) : List Value := [.int .u8 bs.length, .int .u8 R] ++ bodyV v bs
/-- the bytes of a block -/
def blkB (v : Int) (ov : Bool) (b : Int) (R : Nat) (bs : List Bc) : List Value := (if 51903 ≤ v then infoV ov b else []) ++ rawV v R bs
theorem rawV_len {v : Int} {R : Nat} {bs : List Bc} (h : ∀ b ∈ bs, OkB b) : (rawV v R bs).length ≤ 2 + bs.length * 800 ∧ 2 ≤ (rawV v R bs).length := by
  have := bodyV_len (v := v) h
  simp [rawV]
  omega
theorem blkB_len {v : Int} {ov : Bool} {b : Int} {R : Nat} {bs : List Bc} (h : ∀ b ∈ bs, OkB b) : (blkB v ov b R bs).length ≤ 10 + bs.length * 800 ∧ 2 ≤ (blkB v ov b R bs).length := by
  have := rawV_len (v := v) (R := R) h
  unfold blkB
  rw [List.length_append]
  split <;> simp only [infoV_len, List.length_nil] <;> omega
theorem colV_bytes {v : Int} {b : Bc} (h : OkB b) : AllBytes (colV v b) := by
  have h1 := h.ok.nm
  have h2 := h.n1
  unfold colV headB
  refine AllBytes.append (AllBytes.append (AllBytes.append (strV_bytes _ (by omega)) (strV_bytes _ (by omega))) ?_) (AllBytes.flat h.ok.byt _)
  split
  · exact one_bytes 0 (by omega) (by omega)
  · exact AllBytes.nil
theorem bodyV_bytes {v : Int} {bs : List Bc} (h : ∀ b ∈ bs, OkB b) : AllBytes (bodyV v bs) := by
  intro u hu
  obtain ⟨b, hb, hub⟩ := List.mem_flatMap.1 hu
  exact colV_bytes (h b hb) u hub
theorem rawV_bytes {v : Int} {R : Nat} {bs : List Bc} (h : ∀ b ∈ bs, OkB b) (hn : bs.length ≤ 10) (hR : R ≤ 20) : AllBytes (rawV v R bs) :=
  (((one_bytes bs.length (by omega) (by omega)).append (one_bytes R (by omega) (by omega)) : AllBytes ([.int .u8 bs.length] ++ [.int .u8 R]))).append (bodyV_bytes h)
theorem blkB_bytes {v : Int} {ov : Bool} {b : Int} {R : Nat} {bs : List Bc} (h : ∀ b ∈ bs, OkB b) (hn : bs.length ≤ 10) (hR : R ≤ 20) : AllBytes (blkB v ov b R bs) := by
  unfold blkB
  refine AllBytes.append ?_ (rawV_bytes h hn hR)
  split
  · exact infoV_bytes _ _
  · exact AllBytes.nil
set_option maxRecDepth 100000 in
set_option maxHeartbeats 1000000 in
theorem EncodeBlock_K (bp : Nat) (ao : Option Addr) (m cp : Nat) (bs : List Value) (ov : Bool) (b v : Int) (hb : -2147483648 ≤ b ∧ b < 2147483648) (R : Nat) (hR : R ≤ 20) (ai : Option Addr) (ci : Nat) (qs : List (Bc × Nat)) (hqn : qs.length ≤ 10) (w : World) (h : Hold w bp 46 5 1 ao m cp bs) (hm : m ≤ 5000)
    (hi : View w 2 ai qs.length (qs.flatMap inCells)) (hia : ∀ x, x ∈ bk ai → x ∉ bp :: bk ao) (hil : ∀ x, x ∈ bk ai → x < w.heap.size) (hok : ∀ q ∈ qs, OkB q.1) (hrn : ∀ q ∈ qs, q.1.rs.length = R) (hs : ∀ q ∈ qs, Sep w bp ao q) :
    Calls Tryz.prog 15 #[blkV ov b qs.length R, .pointer (some ⟨bp, 0, none⟩), .int .i64 v, .slice ai qs.length ci] w fun e w' => e = .returned .nilIface ∧ Grew w w' bp 46 5 1 ao (m + (blkB v ov b R (qs.map Prod.fst)).length) (bs ++ blkB v ov b R (qs.map Prod.fst)) := by
  obtain ⟨n, hnn⟩ : ∃ n, n = qs.length := ⟨_, rfl⟩
  have hqn' := hqn
  rw [← hnn] at hqn
  obtain ⟨k1, u1, s1⟩ := alloc_facts w (Obj.cells #[.bool ov, .int .i64 b, .int .i64 qs.length, .int .i64 R] 52)
  have hG0 := Gr.start (h.kept u1 (by simp) (by simp))
  have hlt := h.lt
  have hbl := h.own.lt
  have hnb : w.heap.size ∉ bp :: bk ao := fun hx => by
    rcases List.mem_cons.1 hx with e | e
    · omega
    · have := hbl _ e; omega
  have hl1 : w.heap.size < (w.alloc (Obj.cells #[.bool ov, .int .i64 b, .int .i64 qs.length, .int .i64 R] 52)).heap.size := by simp
  have r0 : (w.alloc (Obj.cells #[.bool ov, .int .i64 b, .int .i64 qs.length, .int .i64 R] 52)).rangeAt w.heap.size 0 [.bool ov, .int .i64 b, .int .i64 qs.length, .int .i64 R] := rangeAt_blk k1
  have r0' : (w.alloc (Obj.cells #[.bool ov, .int .i64 b, .int .i64 qs.length, .int .i64 R] 52)).rangeAt w.heap.size 0 [.bool ov, .int .i64 b] := fun j v hj => by
    refine r0 j v ?_
    match j, hj with
    | 0, hj => exact hj
    | 1, hj => exact hj
  have hi1 := hi.upd u1 (by simp)
  have hs1 : ∀ q ∈ qs, Sep _ bp ao q := fun q hq => (hs q hq).upd u1
  clear k1
  have hF := FeatIn 51903 v
  by_cases hv : 51903 ≤ v
  · go_enter Tryz.func15, Tryz.ntmps15
    simp only [blkV]
    go_wp2_with (first
      | (go_at_call 24; (refine (hF _).mono ?_); rintro e w1 ⟨rfl, rfl⟩)
      | ((with_reducible show wpList _ _ _ _ _ _); refine wpList_load_mid rfl 50 (.tmp 12) rfl w.heap.size 0 rfl [.bool ov, .int .i64 b] _ r0' Tryz.underlying50 rfl (by kernel_rfl) ?_)
      | (go_at_call 25; (with_reducible refine (InfoEncode bp _ _ _ _ ov b _ hG0.hold (by omega) hb).mono ?_); rintro e w2 ⟨rfl, ao2, c2, hH2, hU2, hI2⟩; have hG2 := hG0.step hH2 hU2 hI2; have r2 := hG2.upd.range r0 hl1 hnb; have hi2 := hi1.upd hG2.upd hia; have hs2 := (fun q hq => (hs1 q hq).gr hG2); have hia2 : ∀ x, x ∈ bk ai → x ∉ bp :: bk ao2 := (fun x hx hx' => by
          rcases List.mem_cons.1 hx' with e | e
          · exact hia x hx (List.mem_cons.2 (.inl e))
          · rcases hG2.inn x e with h | h
            · exact hia x hx (List.mem_cons_of_mem _ h)
            · have := hil x hx; rw [s1] at h; omega))
      | ((with_reducible show wpList _ _ _ _ _ _); refine wpList_load_mid rfl 52 (.tmp 4) rfl w.heap.size 0 rfl [.bool ov, .int .i64 b, .int .i64 qs.length, .int .i64 R] _ r2 Tryz.underlying52 rfl (by kernel_rfl) ?_)
      | (go_at_call 26; (refine (EncodeRawBlock_K bp _ _ _ _ ov b v R hR ai _ qs hqn' _ hG2.hold (by omega) hi2 hia2 hok hrn hs2).mono ?_); rintro e w3 ⟨rfl, ao3, c3, hH3, hU3, hI3⟩; have hG3 := hG2.step hH3 hU3 hI3))
    go_ret
    refine ⟨rfl, ?_⟩
    have hgr := hG3.grew u1
    rw [List.append_assoc, Nat.add_assoc] at hgr
    have hl : (blkB v ov b R (qs.map Prod.fst)).length = 8 + (2 + (bodyV v (qs.map Prod.fst)).length) := by simp [blkB, rawV, if_pos hv, infoV_len]; omega
    have hs : blkB v ov b R (qs.map Prod.fst) = infoV ov b ++ ([.int .u8 qs.length, .int .u8 R] ++ bodyV v (qs.map Prod.fst)) := by simp only [blkB, rawV, if_pos hv, List.length_map]
    rw [hl, hs]
    exact hgr
  · go_enter Tryz.func15, Tryz.ntmps15
    simp only [blkV]
    go_wp2_with (first
      | (go_at_call 24; (refine (hF _).mono ?_); rintro e w1 ⟨rfl, rfl⟩)
      | ((with_reducible show wpList _ _ _ _ _ _); refine wpList_load_mid rfl 52 (.tmp 4) rfl w.heap.size 0 rfl [.bool ov, .int .i64 b, .int .i64 qs.length, .int .i64 R] _ r0 Tryz.underlying52 rfl (by kernel_rfl) ?_)
      | (go_at_call 26; (refine (EncodeRawBlock_K bp _ _ _ _ ov b v R hR ai _ qs hqn' _ hG0.hold (by omega) hi1 hia hok hrn hs1).mono ?_); rintro e w3 ⟨rfl, ao3, c3, hH3, hU3, hI3⟩; have hG3 := hG0.step hH3 hU3 hI3))
    go_ret
    refine ⟨rfl, ?_⟩
    have hgr := hG3.grew u1
    have hl : (blkB v ov b R (qs.map Prod.fst)).length = 2 + (bodyV v (qs.map Prod.fst)).length := by simp [blkB, rawV, if_neg (show ¬ 51903 ≤ v by omega)]; omega
    have hs : blkB v ov b R (qs.map Prod.fst) = [.int .u8 qs.length, .int .u8 R] ++ bodyV v (qs.map Prod.fst) := by simp only [blkB, rawV, if_neg (show ¬ 51903 ≤ v by omega), List.length_map, List.nil_append]
    rw [hl, hs]
    exact hgr
/-- bytes of their own, and true -/
def Encoded (w : World) (ys : List Value) (e : Ending) (w' : World) : Prop :=
  ∃ g c, e = .returned (.tuple #[.slice (some ⟨g, 0, none⟩) ys.length c, .bool true]) ∧ Row w' 5 1 (some ⟨g, 0, none⟩) ys.length c ys ∧ Upd [] w w' ∧ w.heap.size ≤ g
set_option maxRecDepth 100000 in
set_option maxHeartbeats 1000000 in
theorem BKEncode_K (ov : Bool) (b v : Int) (hb : -2147483648 ≤ b ∧ b < 2147483648) (R : Nat) (hR : R ≤ 20) (ac : Option Addr) (cc : Nat) (bs : List Bc) (hn : bs.length ≤ 10) (hok : ∀ x ∈ bs, OkB x) (hrn : ∀ x ∈ bs, x.rs.length = R) (w : World) (hw : Bcs w ac bs) :
    Calls Tryz.prog 7 #[headV ov b bs.length R, .int .i64 v, .slice ac bs.length cc] w (Encoded w (blkB v ov b R bs)) := by
  obtain ⟨k1, u1, s1⟩ := alloc_facts w (Obj.cells #[.bool ov, .int .i64 b, .int .i64 bs.length, .int .i64 R] 30)
  have hw1 := hw.upd u1
  have hblen := blkB_len (v := v) (ov := ov) (b := b) (R := R) hok
  go_enter Tryz.func7, Tryz.ntmps7
  simp only [headV]
  go_wp2_with (go_at_call 13; apply stopHere)
  show Calls _ _ _ _ _
  refine (inputs_K ac _ bs hok hn _ hw1).mono ?_
  rintro e w1 ⟨ai, ci, qs, hqs, rfl, hRi, hFi, hUi, hIi⟩
  dsimp only
  obtain ⟨k2, u2, s2⟩ := alloc_facts w1 (Obj.cells #[.slice none 0 0] 46)
  have hB := newBufB w1
  have r0 : w1.rangeAt w.heap.size 0 [.bool ov, .int .i64 b, .int .i64 bs.length, .int .i64 R] := rangeAt_blk (hUi.at k1 (by simp))
  have r1 := u2.range r0 (Nat.lt_of_lt_of_le (by rw [s1]; omega) hUi.size) (by simp)
  have hql : qs.length = bs.length := by rw [← hqs, List.length_map]
  have hil : ∀ x, x ∈ bk ai → x < w1.heap.size := hRi.lt
  have hia : ∀ x, x ∈ bk ai → x ∉ w1.heap.size :: bk none := fun x hx hx' => by
    have := hil x hx
    simp at hx'
    omega
  have hsp : ∀ q ∈ qs, Sep (w1.alloc (Obj.cells #[.slice none 0 0] 46)) w1.heap.size none q := fun q hq => by
    obtain ⟨aq, cq, h1, h2, h3⟩ := hFi q hq
    have hl := h1.lt
    refine ⟨aq, cq, h1.kept u2 (by simp) (by simp), fun hx => by simp at hx; omega, fun y hy hx => ?_⟩
    have := h1.own.lt y hy
    simp at hx
    omega
  have hvi := hRi.toView.upd u2 (by simp)
  have hokq : ∀ q ∈ qs, OkB q.1 := fun q hq => hok q.1 (by rw [← hqs]; exact List.mem_map_of_mem hq)
  have hrnq : ∀ q ∈ qs, q.1.rs.length = R := fun q hq => hrn q.1 (by rw [← hqs]; exact List.mem_map_of_mem hq)
  have hws : w.heap.size ≤ w1.heap.size := by have := hUi.size; rw [s1] at this; omega
  have hEB := fun (W : World) (hu : Upd [] (w1.alloc (Obj.cells #[.slice none 0 0] 46)) W) => EncodeBlock_K w1.heap.size none 0 0 [] ov b v hb R hR ai ci qs (by omega) W (hB.kept hu (by simp) (by simp)) (by omega) (by rw [hql]; exact hvi.upd hu (by simp)) hia (fun x hx => Nat.lt_of_lt_of_le (by rw [s2]; have := hil x hx; omega) hu.size) hokq hrnq (fun q hq => (hsp q hq).upd hu)
  rw [hql, hqs] at hEB
  obtain ⟨ys, hys⟩ : ∃ ys, ys = blkB v ov b R bs := ⟨_, rfl⟩
  rw [← hys] at hEB hblen
  have HY := Lib.hid hys
  clear hys
  go_wp2_with (first
    | ((with_reducible show wpList _ _ _ _ _ _); refine wpList_load_midG (by rfl) 30 (.tmp 3) rfl w.heap.size 0 rfl [.bool ov, .int .i64 b, .int .i64 bs.length, .int .i64 R] _ r1 Tryz.underlying30 rfl (by kernel_rfl) ?_)
    | (go_at_call 14; (refine (block_of ov b _ _ _).mono ?_); rintro e w2 ⟨rfl, hu2⟩; have hE2 := hEB _ hu2)
    | (go_at_call 15; (refine hE2.mono ?_); rintro e w3 ⟨rfl, ao3, c3, hH3, hU3, hI3⟩; have q3 := hH3.cell; rw [List.nil_append, Nat.zero_add] at hH3 ; rw [Nat.zero_add] at q3))
  have hH4 := hH3.own
  obtain ⟨g, rfl⟩ := hH4.head (by omega)
  obtain rfl := HY.out
  refine bodyPost_ret (results_tmp2 Tryz.results7 _ _ _) rfl ⟨g, c3, by first | rfl | simp, hH4, ?_, ?_⟩
  · exact (((u1.trans hUi (fun _ h => .inl h)).trans u2 (fun _ h => .inl h)).trans hu2 (fun _ h => .inl h)).trans hU3 (fun y hy => by simp at hy; exact .inr (by omega))
  · rcases hI3 g (by simp) with h | h
    · simp at h
    · have := hu2.size; rw [s2] at this; omega
end Go.Proofs.YtfbohkbpgfnceaaGreatDoor
