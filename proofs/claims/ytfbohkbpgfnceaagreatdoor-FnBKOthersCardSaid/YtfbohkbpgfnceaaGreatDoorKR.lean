/- A raw block, a block are read into columns of any kinds. -/
import Derived.Test.YtfbohkbpgfnceaaGreatDoorKP
import Derived.Test.YtfbohkbpgfnceaaGreatDoorBkAll
namespace Go.Proofs.YtfbohkbpgfnceaaGreatDoor
set_option linter.unusedVariables false
set_option linter.unusedSimpArgs false
open Go Go.RowKit
set_option maxRecDepth 100000 in
set_option maxHeartbeats 400000 in
theorem checkRowsN (n : Int) (h0 : 0 ≤ n) (h1 : n ≤ 1000) (w : World) : Calls Tryz.prog 72 #[.int .i64 n] w fun e w' => e = .returned .nilIface ∧ w' = w := by
  have hh : ¬ n < 0 := by omega
  have hh2 : ¬ (100000000 : Int) < n := by omega
  go_enter Tryz.func72, Tryz.ntmps72
  go_wp2
  go_ret
  exact ⟨rfl, rfl⟩
/-- columns that wait to be read, by a Reader, into a block -/
structure DecPre (w : World) (kb rd bf d : Nat) (ao ar : Option Addr) (qs : List (Bc × Nat)) : Prop where
  view : View w 2 ar qs.length (qs.flatMap inCells)
  arn : ∀ x, x ∈ bk ar → x ∉ kb :: colF qs rd bf ao
  arl : ∀ x, x ∈ bk ar → x < w.heap.size
  emp : ∀ q ∈ qs, Emp w rd bf ao q
  nd : ∀ q ∈ qs, q.2 ≠ d
  nk : ∀ q ∈ qs, q.2 ≠ kb
  nn : ∀ (i j : Nat) (hi : i < qs.length) (hj : j < qs.length), i ≠ j → qs[i].2 ≠ qs[j].2
theorem DecPre.step {w w' : World} {kb rd bf d : Nat} {ao ao' ar : Option Addr} {qs : List (Bc × Nat)} (h : DecPre w kb rd bf d ao ar qs) (hu : Upd (kb :: rdF rd bf ao) w w') (hi : In (bk ao) w.heap.size ao') : DecPre w' kb rd bf d ao' ar qs := by
  have hF : ∀ x, x ∈ bk ar → x ∉ kb :: rdF rd bf ao := fun x hx hx' => h.arn x hx (by
    rcases List.mem_cons.1 hx' with e | e
    · exact List.mem_cons.2 (.inl e)
    · exact List.mem_cons_of_mem _ (List.mem_append.2 (.inr e)))
  refine ⟨h.view.upd hu hF, fun x hx hx' => ?_, fun x hx => Nat.lt_of_lt_of_le (h.arl x hx) hu.size, fun q hq => (h.emp q hq).step hu hi (h.nk q hq), h.nd, h.nk, h.nn⟩
  rcases List.mem_cons.1 hx' with e | e
  · exact h.arn x hx (List.mem_cons.2 (.inl e))
  · rcases List.mem_append.1 e with e | e
    · exact h.arn x hx (List.mem_cons_of_mem _ (List.mem_append.2 (.inl e)))
    · exact notF_step (fun e => hF x hx (List.mem_cons_of_mem _ e)) (h.arl x hx) hi e
/-- what is asked of columns that are read -/
structure ColsOK (R : Nat) (qs : List (Bc × Nat)) : Prop where
  n0 : 0 < qs.length
  n1 : qs.length ≤ 10
  ok : ∀ q ∈ qs, OkB q.1
  rn : ∀ q ∈ qs, q.1.rs.length = R
  nm : ∀ q ∈ qs, 0 < q.1.nm.size
  r0 : 0 < R
  r1 : R ≤ 20
/-- columns are read into a block -/
def DecGot (w w' : World) (kb rd bf d : Nat) (ao : Option Addr) (qs : List (Bc × Nat)) (rest : List Value) : Prop :=
  ∃ ao', Rdr w' rd bf d ao' rest ∧ Upd (kb :: colF qs rd bf ao) w w' ∧ In (bk ao) w.heap.size ao' ∧ ∀ q ∈ qs, Fil w' w.heap.size rd bf ao' q
theorem Fil.le {w : World} {B B' rd bf : Nat} {ao : Option Addr} {q : Bc × Nat} (h : Fil w B rd bf ao q) (hB : B' ≤ B) : Fil w B' rd bf ao q := by
  obtain ⟨aq, c, h1, h2, h3⟩ := h
  exact ⟨aq, c, h1, h2.le hB, h3⟩
theorem DecGot.trans {w w1 w2 : World} {kb rd bf d : Nat} {ao ao1 : Option Addr} {qs : List (Bc × Nat)} {rest : List Value} (hu : Upd (kb :: rdF rd bf ao) w w1) (hi : In (bk ao) w.heap.size ao1) (h : DecGot w1 w2 kb rd bf d ao1 qs rest) : DecGot w w2 kb rd bf d ao qs rest := by
  obtain ⟨ao2, h1, h2, h3, h4⟩ := h
  refine ⟨ao2, h1, (hu.mono (fun x hx => ?_)).trans h2 (fun y hy => ?_), hi.step h3 hu.size, fun q hq => (h4 q hq).le hu.size⟩
  · rcases List.mem_cons.1 hx with e | e
    · exact .inl (List.mem_cons.2 (.inl e))
    · exact .inl (List.mem_cons_of_mem _ (List.mem_append.2 (.inr e)))
  · rcases List.mem_cons.1 hy with e | e
    · exact .inl (List.mem_cons.2 (.inl e))
    · rcases List.mem_append.1 e with e | e
      · exact .inl (List.mem_cons_of_mem _ (List.mem_append.2 (.inl e)))
      · by_cases hyr : y ∈ rdF rd bf ao
        · exact .inl (List.mem_cons_of_mem _ (List.mem_append.2 (.inr hyr)))
        · exact .inr (Nat.le_of_not_lt fun hlt => notF_step hyr hlt hi e)
theorem methRes (v : Value) (w : World) : (method 625 86 v "DecodeResult").run Tryz.prog w = .ok (137, v) w := by kernel_rfl
theorem nilAheadRes (v : Value) (w : World) : (nilAhead 625 86 v "DecodeResult").run Tryz.prog w = .ok (some false) w := by kernel_rfl
set_option maxRecDepth 100000 in
set_option maxHeartbeats 1000000 in
theorem DecodeRawBlock_K (kb rd bf d : Nat) (ao : Option Addr) (ov : Bool) (b v : Int) (R : Nat) (ar : Option Addr) (cr : Nat) (qs : List (Bc × Nat)) (hC : ColsOK R qs) (rest : List Value) (w : World) (h : Rdr w rd bf d ao (rawV v R (qs.map Prod.fst) ++ rest)) (hk : w.heap[kb]? = some (blkC ov b 0 0)) (ho : Off kb rd bf d ao) (hp : DecPre w kb rd bf d ao ar qs) :
    Calls Tryz.prog 34 #[.pointer (some ⟨kb, 0, none⟩), .pointer (some ⟨rd, 0, none⟩), .int .i64 v, .iface 86 (.slice ar qs.length cr)] w fun e w' => e = .returned .nilIface ∧ w'.heap[kb]? = some (blkC ov b qs.length R) ∧ DecGot w w' kb rd bf d ao qs rest := by
  have hkl := lt_of_block hk
  have hn1 := hC.n1
  have hn0 := hC.n0
  have hr1 := hC.r1
  have hr0 := hC.r0
  have hbl : rawV v R (qs.map Prod.fst) ++ rest = .int .u8 qs.length :: (.int .u8 R :: (bodyV v (qs.map Prod.fst) ++ rest)) := by simp [rawV]
  rw [hbl] at h
  clear hbl
  have hDR := fun (ao' : Option Addr) (W : World) (hR : Rdr W rd bf d ao' (bodyV v (qs.map Prod.fst) ++ rest)) (hpW : DecPre W kb rd bf d ao' ar qs) => DecodeResult_K rd bf d ao' ov b v R hr0 hr1 ar cr qs hn0 hn1 rest W hR hC.ok hC.rn hC.nm hpW.view (fun x hx hx' => hpW.arn x hx (List.mem_cons_of_mem _ hx')) hpW.nd hpW.emp hpW.nn
  obtain ⟨n, hnn⟩ : ∃ n, n = qs.length := ⟨_, rfl⟩
  rw [← hnn] at h hn1 hn0 hDR ⊢
  have HN := Lib.hid hnn
  clear hnn
  have hx1 : ¬ (1000000 : Int) < n := by omega
  have hx2 : ¬ (n : Int) < 0 := by omega
  have hmr := methRes
  have hna := nilAheadRes
  have hend : (decide ((n : Int) = 0) && decide ((R : Int) = 0)) = false := by rw [decide_eq_false (show ¬ (n : Int) = 0 by omega)]; rfl
  go_enter Tryz.func34, Tryz.ntmps34
  go_wp2_with (first
    | (go_at_call 71; (with_reducible refine (rdIntN rd bf d ao n (by omega) (by omega) _ _ h).mono ?_); rintro e w1 ⟨rfl, ao1, hR1, hU1, hI1⟩; have hB1 := hU1.at hk ho.not; obtain ⟨q0, q1, q2, q3, qf⟩ := blk_cells hB1; have f2 := qf 2; clear q0 q1 q3 qf; have hO1 := ho.step hI1 hkl; have hS1 := ((Upd.refl [kb] w1).setCell (p := ⟨kb, 2, none⟩) (Value.int .i64 n) (by simp)); have hR2 := hR1.keptK hS1 hO1; have hB2 := blk_set2 hB1 n; have hp1 := (hp.step (hU1.mono (fun x hx => .inl (List.mem_cons_of_mem _ hx))) hI1).step (hS1.mono (by simp +contextual)) (In.self (fun _ h => h)))
    | (go_at_call 71; (with_reducible refine (rdIntN rd bf d ao1 R (by omega) (by omega) _ _ hR2).mono ?_); rintro e w3 ⟨rfl, ao3, hR3, hU3, hI3⟩; have hB3 := hU3.at hB2 hO1.not; obtain ⟨p0, p1, p2, p3, pf⟩ := blk_cells hB3; have g3 := pf 3; clear p0 p1 p2 pf; have hB4 := blk_set3 hB3 R; have hS3 := ((Upd.refl [kb] w3).setCell (p := ⟨kb, 3, none⟩) (Value.int .i64 R) (by simp)); have hO3 := hO1.step hI3 (by rw [World.size_setCell]; exact Nat.lt_of_lt_of_le hkl hU1.size); have hR4 := hR3.keptK hS3 hO3; have hp4 := (hp1.step (hU3.mono (fun x hx => .inl (List.mem_cons_of_mem _ hx))) hI3).step (hS3.mono (by simp +contextual)) (In.self (fun _ h => h)); obtain ⟨z0, z1, z2, z3, zf⟩ := blk_cells hB4; have rz := rangeAt_blk (cs := [.bool ov, .int .i64 b, .int .i64 n, .int .i64 R]) hB4)
    | (go_at_call 72; (refine (checkRowsN _ (by omega) (by omega) _).mono ?_); rintro e w5 ⟨rfl, rfl⟩)
    | (go_at_call 73; (refine (blockEnd kb ov b n R _ hB4).mono ?_); rintro e w6 ⟨rfl, rfl⟩; rw [hend]))
  have hlW : kb < (w5.setCell ⟨kb, 3, none⟩ (Value.int .i64 R)).heap.size := lt_of_block hB4
  have hS4 := (((hU1.mono (fun x hx => .inl (List.mem_cons_of_mem _ hx))).trans (hS1.mono (G := kb :: rdF rd bf ao) (by simp +contextual)) (fun _ h => .inl h)).trans (hU3.mono (G := kb :: rdF rd bf ao1) (fun x hx => .inl (List.mem_cons_of_mem _ hx))) (fun y hy => by
    rcases List.mem_cons.1 hy with e | e
    · exact .inl (List.mem_cons.2 (.inl e))
    · by_cases hyr : y ∈ rdF rd bf ao
      · exact .inl (List.mem_cons_of_mem _ hyr)
      · exact .inr (Nat.le_of_not_lt fun hlt => notF_step hyr hlt hI1 e))).trans (hS3.mono (G := kb :: rdF rd bf ao) (by simp +contextual)) (fun _ h => .inl h)
  have hI4 : In (bk ao) w.heap.size ao3 := hI1.step hI3 (by rw [World.size_setCell]; exact hU1.size)
  generalize w5.setCell ⟨kb, 3, none⟩ (Value.int .i64 R) = W at *
  have hmf : ∀ (fn : Fn) (first cap : Array Value) (w : World), (Instr.makeFunc fn first cap).run Tryz.prog w = .ok (.func fn first cap) w := fun _ _ _ _ => rfl
  refine wp_region_split (S := Upd [] W) [(true, 0), (true, 1), (true, 2), (true, 3), (true, 4), (true, 5), (true, 6), (true, 7), (true, 8)] [] [9, 10] (by kernel_rfl) (by kernel_rfl) (fun _ _ d _ _ h => by cases d <;> exact h) ((Upd.refl _ _).drew) ?_
  simp only [readsAt, opersAt, Option.map_some, List.filterMap_cons, List.filterMap_nil, List.getElem?_toArray, List.getElem?_cons_succ, List.getElem?_cons_zero]
  iterate 5 (refine ⟨_, Or.inl ⟨by rfl, fun w' hS => by first | (go_simp; done) | (go_simp; with_reducible rfl)⟩, ?_⟩; simp only [Act.put, List.setIfInBounds_toArray, List.set_cons_zero, List.set_cons_succ])
  refine ⟨_, yieldsIf_load_mid (by rfl) 52 (.tmp 133) rfl kb 0 rfl [.bool ov, .int .i64 b, .int .i64 n, .int .i64 R] _ (fun w' hS => Upd.range hS rz hlW (by simp)) Tryz.underlying52 rfl (by kernel_rfl), ?_⟩
  simp only [Act.put, List.setIfInBounds_toArray, List.set_cons_zero, List.set_cons_succ]
  iterate 3 (refine ⟨_, Or.inl ⟨by rfl, fun w' hS => by first | (go_simp; done) | (go_simp; with_reducible rfl)⟩, ?_⟩; simp only [Act.put, List.setIfInBounds_toArray, List.set_cons_zero, List.set_cons_succ])
  simp only [readsThen, preThen]
  change wpList _ _ _ [_, _] _ _
  have hdW := (Upd.refl [] W).drew
  have hR5 := hR4.kept hdW (by simp)
  have hp5 := hp4.step (hdW.mono (by simp)) (In.self (fun _ h => h))
  go_wp2_with (go_at_call 137; (refine (hDR _ _ hR5 hp5).mono ?_); rintro e w7 ⟨rfl, ao7, hR7, hU7, hI7, hF7⟩)
  go_ret
  have hkn : kb ∉ colF qs rd bf ao3 := fun hx => by
    rcases List.mem_append.1 hx with e | e
    · obtain ⟨q, hq, e⟩ := List.mem_map.1 e
      exact hp.nk q hq e
    · exact hO3.not e
  exact ⟨rfl, hU7.at (hdW.at hB4 (by simp)) hkn, DecGot.trans hS4 hI4 ⟨ao7, hR7, hU7.ofDrew.mono (fun x hx => .inl (List.mem_cons_of_mem _ hx)), hI7, hF7⟩⟩
/-- what a version knows of a head -/
def knB (v : Int) (ov : Bool) : Bool := if 51903 ≤ v then ov else false
def knI (v : Int) (b : Int) : Int := if 51903 ≤ v then b else 0
set_option maxRecDepth 100000 in
set_option maxHeartbeats 1000000 in
theorem DecodeBlock_K (kb rd bf d : Nat) (ao : Option Addr) (ov : Bool) (b v : Int) (hb : -2147483648 ≤ b ∧ b < 2147483648) (R : Nat) (ar : Option Addr) (cr : Nat) (qs : List (Bc × Nat)) (hC : ColsOK R qs) (rest : List Value) (w : World) (h : Rdr w rd bf d ao (blkB v ov b R (qs.map Prod.fst) ++ rest)) (hk : w.heap[kb]? = some (blkC false 0 0 0)) (ho : Off kb rd bf d ao) (hp : DecPre w kb rd bf d ao ar qs) :
    Calls Tryz.prog 18 #[.pointer (some ⟨kb, 0, none⟩), .pointer (some ⟨rd, 0, none⟩), .int .i64 v, .iface 86 (.slice ar qs.length cr)] w fun e w' => e = .returned .nilIface ∧ w'.heap[kb]? = some (blkC (knB v ov) (knI v b) qs.length R) ∧ DecGot w w' kb rd bf d ao qs rest := by
  have hkl := lt_of_block hk
  have hF := FeatIn 51903 v
  unfold blkB at h
  by_cases hv : 51903 ≤ v
  · simp only [if_pos hv, knB, knI, List.append_assoc] at h ⊢
    go_enter Tryz.func18, Tryz.ntmps18
    go_wp2_with (first
      | (go_at_call 24; (refine (hF _).mono ?_); rintro e w1 ⟨rfl, rfl⟩)
      | (go_at_call 33; (refine (InfoDecode kb rd bf d ao ov b 0 0 hb _ _ h hk ho).mono ?_); rintro e w2 ⟨rfl, hB2, ao2, hR2, hU2, hI2⟩; have hO2 := ho.step hI2 hkl)
      | (go_at_call 34; (refine (DecodeRawBlock_K kb rd bf d ao2 ov b v R ar cr qs hC rest _ hR2 hB2 hO2 (hp.step hU2 hI2)).mono ?_); rintro e w3 ⟨rfl, hB3, hK3⟩))
    go_ret
    exact ⟨rfl, hB3, DecGot.trans hU2 hI2 hK3⟩
  · simp only [if_neg hv, List.nil_append, knB, knI] at h ⊢
    go_enter Tryz.func18, Tryz.ntmps18
    go_wp2_with (first
      | (go_at_call 24; (refine (hF _).mono ?_); rintro e w1 ⟨rfl, rfl⟩)
      | (go_at_call 34; (refine (DecodeRawBlock_K kb rd bf d ao false 0 v R ar cr qs hC rest _ h hk ho hp).mono ?_); rintro e w3 ⟨rfl, hB3, hK3⟩))
    go_ret
    exact ⟨rfl, hB3, hK3⟩
set_option maxRecDepth 100000 in
set_option maxHeartbeats 1000000 in
theorem bkClosure_K (vb kb rd bf d : Nat) (ao : Option Addr) (ov : Bool) (b v : Int) (hb : -2147483648 ≤ b ∧ b < 2147483648) (R : Nat) (ar : Option Addr) (cr : Nat) (qs : List (Bc × Nat)) (hC : ColsOK R qs) (rest : List Value) (w : World) (h : Rdr w rd bf d ao (blkB v ov b R (qs.map Prod.fst) ++ rest)) (hk : w.heap[kb]? = some (blkC false 0 0 0)) (ho : Off kb rd bf d ao) (hp : DecPre w kb rd bf d ao ar qs)
    (hv : w.cell? ⟨vb, 0, none⟩ = some (.int .i64 v)) :
    Calls Tryz.prog 17 #[.pointer (some ⟨kb, 0, none⟩), .pointer (some ⟨rd, 0, none⟩), .iface 86 (.slice ar qs.length cr), .pointer (some ⟨vb, 0, none⟩)] w fun e w' => e = .returned .nilIface ∧ w'.heap[kb]? = some (blkC (knB v ov) (knI v b) qs.length R) ∧ DecGot w w' kb rd bf d ao qs rest := by
  go_enter Tryz.func17, Tryz.ntmps17
  go_wp2_with (go_at_call 18; (refine (DecodeBlock_K kb rd bf d ao ov b v hb R ar cr qs hC rest _ h hk ho hp).mono ?_); rintro e w1 ⟨rfl, hB1, hK1⟩)
  go_ret
  exact ⟨rfl, hB1, hK1⟩
/-- the rows of a column, as they are given -/
def rowCells (x : Bc × Option Addr × Nat) : List Value := [.slice x.2.1 x.1.rs.length x.2.2]
def keptV (b : Bc) : List Value := b.rs.flatMap (fun r => (b.K.kept r).cells)
/-- what is read of a block: its head, the rows column by column, how many bytes are left -/
def Decoded (w : World) (hd : Value) (bs : List Bc) (left : Nat) (e : Ending) (w' : World) : Prop :=
  ∃ (ao : Option Addr) (c : Nat) (ws : List (Bc × Option Addr × Nat)), ws.map Prod.fst = bs ∧ e = .returned (.tuple #[hd, .slice ao bs.length c, .int .i64 left, .bool true]) ∧ Row w' 33 1 ao bs.length c (ws.flatMap rowCells) ∧ (∀ x ∈ ws, View w' 4 x.2.1 x.1.rs.length (keptV x.1) ∧ In [] w.heap.size x.2.1) ∧ Upd [] w w' ∧ In [] w.heap.size ao
/-- the empty column of q.1 stands at q.2, from B on, and shares nothing with the slices -/
def EmpA (w : World) (B : Nat) (ar al : Option Addr) (q : Bc × Nat) : Prop := Hold w q.2 q.1.K.tC q.1.K.tE q.1.K.size none 0 0 [] ∧ B ≤ q.2 ∧ q.2 ∉ bk ar ∧ q.2 ∉ bk al
theorem EmpA.upd {w w' : World} {B : Nat} {ar al : Option Addr} {q : Bc × Nat} (h : EmpA w B ar al q) (hu : Upd [] w w') : EmpA w' B ar al q := ⟨h.1.kept hu (by simp) (by simp), h.2⟩
theorem EmpA.stepR {w w' : World} {B : Nat} {ar ar' al : Option Addr} {q : Bc × Nat} (h : EmpA w B ar al q) (hu : Upd (bk ar) w w') (hi : In (bk ar) w.heap.size ar') : EmpA w' B ar' al q :=
  ⟨h.1.kept hu h.2.2.1 (by simp), h.2.1, fun hx => (hi _ hx).elim h.2.2.1 (fun e => by have := h.1.lt; omega), h.2.2.2⟩
theorem EmpA.stepL {w w' : World} {B : Nat} {ar al al' : Option Addr} {q : Bc × Nat} (h : EmpA w B ar al q) (hu : Upd (bk al) w w') (hi : In (bk al) w.heap.size al') : EmpA w' B ar al' q :=
  ⟨h.1.kept hu h.2.2.2 (by simp), h.2.1, h.2.2.1, fun hx => (hi _ hx).elim h.2.2.2 (fun e => by have := h.1.lt; omega)⟩
def lCells (q : Bc × Nat) : List Value := [.iface q.1.K.tI (q.1.K.V q.2)]
theorem Tryz.info72 : (Tryz.prog.info? 72).map (fun i => (i.zero, i.size, i.bytes)) = some (some (.nilIface), 1, 16) := by kernel_rfl
theorem Tryz.info91 : (Tryz.prog.info? 91).map (fun i => (i.zero, i.size, i.bytes)) = some (some (.agg #[.string "".toUTF8, .nilIface]), 2, 32) := by kernel_rfl
theorem Tryz.info33 : (Tryz.prog.info? 33).map (fun i => (i.zero, i.size, i.bytes)) = some (some (.slice none 0 0), 1, 24) := by kernel_rfl
end Go.Proofs.YtfbohkbpgfnceaaGreatDoor
