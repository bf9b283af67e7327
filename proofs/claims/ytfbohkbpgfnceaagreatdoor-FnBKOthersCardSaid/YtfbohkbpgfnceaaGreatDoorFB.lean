/- A block is not read. -/
import Derived.Test.YtfbohkbpgfnceaaGreatDoorFR
import Derived.Test.YtfbohkbpgfnceaaGreatDoorME
namespace Go.Proofs.YtfbohkbpgfnceaaGreatDoor
set_option linter.unusedVariables false
set_option linter.unusedSimpArgs false
open Go Go.RowKit
/-- a function ends in an error, and changes F alone -/
def Err1 (F : List Nat) (w : World) (e : Ending) (w' : World) : Prop := (∃ q, e = .returned (er q)) ∧ Upd F w w'
abbrev kF (kb : Nat) (qs : List (Bc × Nat)) (rd bf : Nat) (ao : Option Addr) : List Nat := kb :: colF qs rd bf ao
theorem kF_of {kb rd bf : Nat} {ao : Option Addr} {qs : List (Bc × Nat)} : ∀ y, y ∈ kb :: rdF rd bf ao → y ∈ kF kb qs rd bf ao := fun y hy => by
  rcases List.mem_cons.1 hy with e | e
  · exact List.mem_cons.2 (.inl e)
  · exact List.mem_cons_of_mem _ (List.mem_append.2 (.inr e))
theorem kF_step {w : World} {kb rd bf : Nat} {ao ao1 : Option Addr} {qs : List (Bc × Nat)} (hi : In (bk ao) w.heap.size ao1) : ∀ y, y ∈ kF kb qs rd bf ao1 → y ∈ kF kb qs rd bf ao ∨ w.heap.size ≤ y := fun y hy => by
  rcases List.mem_cons.1 hy with e | e
  · exact .inl (List.mem_cons.2 (.inl e))
  · rcases List.mem_append.1 e with e | e
    · exact .inl (List.mem_cons_of_mem _ (List.mem_append.2 (.inl e)))
    · exact (rdF_step hi y e).imp (fun h => List.mem_cons_of_mem _ (List.mem_append.2 (.inr h))) id
/-- two bytes of a raw block's head, of which one lacks -/
def Head2 (nb R : Nat) (X : List Value) : Prop := X = [] ∨ X = [.int .u8 nb]
set_option maxRecDepth 100000 in
set_option maxHeartbeats 1000000 in
theorem DecodeRawBlock_H (kb rd bf d : Nat) (ao : Option Addr) (ov : Bool) (b v : Int) (nb R : Nat) (hnb : nb ≤ 100) (tgt : Value) (X : List Value) (hX : Head2 nb R X) (w : World) (h : Rdr w rd bf d ao X) (hk : w.heap[kb]? = some (blkC ov b 0 0)) (ho : Off kb rd bf d ao) :
    Calls Tryz.prog 34 #[.pointer (some ⟨kb, 0, none⟩), .pointer (some ⟨rd, 0, none⟩), .int .i64 v, tgt] w (Err1 (kb :: rdF rd bf ao) w) := by
  have hkl := lt_of_block hk
  rcases hX with rfl | rfl
  · go_enter Tryz.func34, Tryz.ntmps34
    go_wp2_with (first
      | (go_at_call 71; (with_reducible refine (shInt rd bf d ao _ h).mono ?_); rintro e w1 ⟨⟨p1, rfl⟩, hS1⟩)
      | (go_at_call 27; (refine (errWrap p1 _ _).mono ?_); rintro e w3 ⟨⟨p3, rfl⟩, hu3⟩))
    go_ret
    exact ⟨⟨p3, rfl⟩, (hS1.more hu3).upd.mono (fun y hy => .inl (List.mem_cons_of_mem _ hy))⟩
  · have hx1 : ¬ (1000000 : Int) < nb := by omega
    have hx2 : ¬ (nb : Int) < 0 := by omega
    go_enter Tryz.func34, Tryz.ntmps34
    go_wp2_with (first
      | (go_at_call 71; (with_reducible refine (rdIntN rd bf d ao nb (by omega) (by omega) _ _ h).mono ?_); rintro e w1 ⟨rfl, ao1, hR1, hU1, hI1⟩; have hB1 := hU1.at hk ho.not; obtain ⟨q0, q1, q2, q3, qf⟩ := blk_cells hB1; have f2 := qf 2; clear q0 q1 q3 qf; have hO1 := ho.step hI1 hkl; have hS1 := ((Upd.refl [kb] w1).setCell (p := ⟨kb, 2, none⟩) (Value.int .i64 nb) (by simp)); have hR2 := hR1.keptK hS1 hO1)
      | (go_at_call 71; (with_reducible refine (shInt rd bf d ao1 _ hR2).mono ?_); rintro e w3 ⟨⟨p1, rfl⟩, hS3⟩)
      | (go_at_call 27; (refine (errWrap p1 _ _).mono ?_); rintro e w4 ⟨⟨p4, rfl⟩, hu4⟩))
    go_ret
    refine ⟨⟨p4, rfl⟩, ?_⟩
    refine (((hU1.mono (G := kb :: rdF rd bf ao) (fun x hx => .inl (List.mem_cons_of_mem _ hx))).trans hS1 (fun y hy => .inl (by simp at hy; simp [hy])))).trans (hS3.more hu4).upd (fun y hy => ?_)
    exact (rdF_step hI1 y hy).imp (List.mem_cons_of_mem _) id
set_option maxRecDepth 100000 in
set_option maxHeartbeats 1000000 in
theorem DecodeRawBlock_E (kb rd bf d : Nat) (ao : Option Addr) (ov : Bool) (b v : Int) (n R : Nat) (hn1 : n ≤ 100) (hr0 : 0 < R) (hr1 : R ≤ 20) (ar : Option Addr) (m cr : Nat) (qs : List (Bc × Nat)) (tail : List Value) (w : World) (h : Rdr w rd bf d ao (.int .u8 n :: .int .u8 R :: tail)) (hk : w.heap[kb]? = some (blkC ov b 0 0)) (ho : Off kb rd bf d ao) (hp : DecPre w kb rd bf d ao ar qs)
    (hDR : ∀ (ao' : Option Addr) (W : World), Rdr W rd bf d ao' tail → DecPre W kb rd bf d ao' ar qs → Calls Tryz.prog 137 #[.slice ar m cr, .pointer (some ⟨rd, 0, none⟩), .int .i64 v, blkV ov b n R] W (Err1 (colF qs rd bf ao') W)) :
    Calls Tryz.prog 34 #[.pointer (some ⟨kb, 0, none⟩), .pointer (some ⟨rd, 0, none⟩), .int .i64 v, .iface 86 (.slice ar m cr)] w (Err1 (kF kb qs rd bf ao) w) := by
  have hkl := lt_of_block hk
  have hx1 : ¬ (1000000 : Int) < n := by omega
  have hx2 : ¬ (n : Int) < 0 := by omega
  have hmr := methRes
  have hna := nilAheadRes
  have hend : (decide ((n : Int) = 0) && decide ((R : Int) = 0)) = false := by rw [decide_eq_false (show ¬ (R : Int) = 0 by omega), Bool.and_false]
  go_enter Tryz.func34, Tryz.ntmps34
  go_wp2_with (first
    | (go_at_call 71; (with_reducible refine (rdIntN rd bf d ao n (by omega) (by omega) _ _ h).mono ?_); rintro e w1 ⟨rfl, ao1, hR1, hU1, hI1⟩; have hB1 := hU1.at hk ho.not; obtain ⟨q0, q1, q2, q3, qf⟩ := blk_cells hB1; have f2 := qf 2; clear q0 q1 q3 qf; have hO1 := ho.step hI1 hkl; have hS1 := ((Upd.refl [kb] w1).setCell (p := ⟨kb, 2, none⟩) (Value.int .i64 n) (by simp)); have hR2 := hR1.keptK hS1 hO1; have hB2 := blk_set2 hB1 n; have hp1 := (hp.step (hU1.mono (fun x hx => .inl (List.mem_cons_of_mem _ hx))) hI1).step (hS1.mono (by simp +contextual)) (In.self (fun _ h => h)))
    | (go_at_call 71; (with_reducible refine (rdIntN rd bf d ao1 R (by omega) (by omega) _ _ hR2).mono ?_); rintro e w3 ⟨rfl, ao3, hR3, hU3, hI3⟩; have hB3 := hU3.at hB2 hO1.not; obtain ⟨p0, p1, p2, p3, pf⟩ := blk_cells hB3; have g3 := pf 3; clear p0 p1 p2 pf; have hB4 := blk_set3 hB3 R; have hS3 := ((Upd.refl [kb] w3).setCell (p := ⟨kb, 3, none⟩) (Value.int .i64 R) (by simp)); have hO3 := hO1.step hI3 (by rw [World.size_setCell]; exact Nat.lt_of_lt_of_le hkl hU1.size); have hR4 := hR3.keptK hS3 hO3; have hp4 := (hp1.step (hU3.mono (fun x hx => .inl (List.mem_cons_of_mem _ hx))) hI3).step (hS3.mono (by simp +contextual)) (In.self (fun _ h => h)); obtain ⟨z0, z1, z2, z3, zf⟩ := blk_cells hB4; have rz := rangeAt_blk (cs := [.bool ov, .int .i64 b, .int .i64 n, .int .i64 R]) hB4)
    | (go_at_call 72; (refine (checkRowsN _ (by omega) (by omega) _).mono ?_); rintro e w5 ⟨rfl, rfl⟩)
    | (go_at_call 73; (refine (blockEnd kb ov b n R _ hB4).mono ?_); rintro e w6 ⟨rfl, rfl⟩; rw [hend]))
  have hlW : kb < (w5.setCell ⟨kb, 3, none⟩ (Value.int .i64 R)).heap.size := lt_of_block hB4
  have hS4 := (((hU1.mono (fun x hx => .inl (List.mem_cons_of_mem _ hx))).trans (hS1.mono (G := kb :: rdF rd bf ao) (by simp +contextual)) (fun _ h => .inl h)).trans (hU3.mono (G := kb :: rdF rd bf ao1) (fun x hx => .inl (List.mem_cons_of_mem _ hx))) (fun y hy => by
    rcases List.mem_cons.1 hy with e | e
    · exact .inl (List.mem_cons.2 (.inl e))
    · by_cases hyr : y ∈ rdF rd bf ao
      · exact .inl (List.mem_cons_of_mem _ hyr)
      · exact .inr (Nat.le_of_not_lt fun hlt => notF_step hyr hlt hI1 e))).trans (hS3.mono (G := kb :: rdF rd bf ao) (by simp +contextual)) (fun _ h => .inl h)
  have hI4 : In (bk ao) w.heap.size ao3 := hI1.step hI3 (by rw [World.size_setCell]; exact hU1.size)
  generalize w5.setCell ⟨kb, 3, none⟩ (Value.int .i64 R) = W at *
  have hmf : ∀ (fn : Fn) (first cap : Array Value) (w : World), (Instr.makeFunc fn first cap).run Tryz.prog w = .ok (.func fn first cap) w := fun _ _ _ _ => rfl
  refine wp_region_split (S := Upd [] W) [(true, 0), (true, 1), (true, 2), (true, 3), (true, 4), (true, 5), (true, 6), (true, 7), (true, 8)] [] [9, 10] (by kernel_rfl) (by kernel_rfl) (fun _ _ d _ _ h => by cases d <;> exact h) ((Upd.refl _ _).drew) ?_
  simp only [readsAt, opersAt, Option.map_some, List.filterMap_cons, List.filterMap_nil, List.getElem?_toArray, List.getElem?_cons_succ, List.getElem?_cons_zero]
  iterate 5 (refine ⟨_, Or.inl ⟨by rfl, fun w' hS => by first | (go_simp; done) | (go_simp; with_reducible rfl)⟩, ?_⟩; simp only [Act.put, List.setIfInBounds_toArray, List.set_cons_zero, List.set_cons_succ])
  refine ⟨_, yieldsIf_load_mid (by rfl) 52 (.tmp 133) rfl kb 0 rfl [.bool ov, .int .i64 b, .int .i64 n, .int .i64 R] _ (fun w' hS => Upd.range hS rz hlW (by simp)) Tryz.underlying52 rfl (by kernel_rfl), ?_⟩
  simp only [Act.put, List.setIfInBounds_toArray, List.set_cons_zero, List.set_cons_succ]
  iterate 3 (refine ⟨_, Or.inl ⟨by rfl, fun w' hS => by first | (go_simp; done) | (go_simp; with_reducible rfl)⟩, ?_⟩; simp only [Act.put, List.setIfInBounds_toArray, List.set_cons_zero, List.set_cons_succ])
  simp only [readsThen, preThen]
  change wpList _ _ _ [_, _] _ _
  have hdW := (Upd.refl [] W).drew
  have hR5 := hR4.kept hdW (by simp)
  have hp5 := hp4.step (hdW.mono (by simp)) (In.self (fun _ h => h))
  go_wp2_with (first
    | (go_at_call 137; (refine (hDR _ _ hR5 hp5).mono ?_); rintro e w7 ⟨⟨p1, rfl⟩, hU7⟩)
    | (go_at_call 27; (refine (errWrap p1 _ _).mono ?_); rintro e w8 ⟨⟨p8, rfl⟩, hu8⟩))
  go_ret
  refine ⟨⟨p8, rfl⟩, ?_⟩
  refine ((hS4.mono (fun y hy => .inl (kF_of y hy))).trans (hU7.ofDrew.mono (G := kF kb qs rd bf ao3) (fun x hx => .inl (List.mem_cons_of_mem _ hx))) (kF_step hI4)).trans hu8 (by simp)
set_option maxRecDepth 100000 in
set_option maxHeartbeats 1000000 in
theorem DecodeBlock_E (kb rd bf d : Nat) (ao : Option Addr) (ov : Bool) (b v : Int) (hb : -2147483648 ≤ b ∧ b < 2147483648) (ar : Option Addr) (tgt : Value) (qs : List (Bc × Nat)) (X : List Value) (w : World) (h : Rdr w rd bf d ao ((if 51903 ≤ v then infoV ov b else []) ++ X)) (hk : w.heap[kb]? = some (blkC false 0 0 0)) (ho : Off kb rd bf d ao) (hp : DecPre w kb rd bf d ao ar qs)
    (hRB : ∀ (ao' : Option Addr) (ov' : Bool) (b' : Int) (W : World), Rdr W rd bf d ao' X → W.heap[kb]? = some (blkC ov' b' 0 0) → Off kb rd bf d ao' → DecPre W kb rd bf d ao' ar qs → Calls Tryz.prog 34 #[.pointer (some ⟨kb, 0, none⟩), .pointer (some ⟨rd, 0, none⟩), .int .i64 v, tgt] W (Err1 (kF kb qs rd bf ao') W)) :
    Calls Tryz.prog 18 #[.pointer (some ⟨kb, 0, none⟩), .pointer (some ⟨rd, 0, none⟩), .int .i64 v, tgt] w (Err1 (kF kb qs rd bf ao) w) := by
  have hkl := lt_of_block hk
  have hF := FeatIn 51903 v
  by_cases hv : 51903 ≤ v
  · simp only [if_pos hv] at h
    go_enter Tryz.func18, Tryz.ntmps18
    go_wp2_with (first
      | (go_at_call 24; (refine (hF _).mono ?_); rintro e w1 ⟨rfl, rfl⟩)
      | (go_at_call 33; (refine (InfoDecode kb rd bf d ao ov b 0 0 hb _ _ h hk ho).mono ?_); rintro e w2 ⟨rfl, hB2, ao2, hR2, hU2, hI2⟩; have hO2 := ho.step hI2 hkl)
      | (go_at_call 34; (refine (hRB ao2 ov b _ hR2 hB2 hO2 (hp.step hU2 hI2)).mono ?_); rintro e w3 ⟨⟨p1, rfl⟩, hU3⟩)
      | (go_at_call 27; (refine (errWrap p1 _ _).mono ?_); rintro e w4 ⟨⟨p4, rfl⟩, hu4⟩))
    go_ret
    exact ⟨⟨p4, rfl⟩, ((hU2.mono (fun y hy => .inl (kF_of y hy))).trans hU3 (kF_step hI2)).trans hu4 (by simp)⟩
  · simp only [if_neg hv, List.nil_append] at h
    go_enter Tryz.func18, Tryz.ntmps18
    go_wp2_with (first
      | (go_at_call 24; (refine (hF _).mono ?_); rintro e w1 ⟨rfl, rfl⟩)
      | (go_at_call 34; (refine (hRB ao false 0 _ h hk ho hp).mono ?_); rintro e w3 ⟨⟨p1, rfl⟩, hU3⟩)
      | (go_at_call 27; (refine (errWrap p1 _ _).mono ?_); rintro e w4 ⟨⟨p4, rfl⟩, hu4⟩))
    go_ret
    exact ⟨⟨p4, rfl⟩, hU3.trans hu4 (by simp)⟩
set_option maxRecDepth 100000 in
set_option maxHeartbeats 1000000 in
/-- the block's own head lacks some bytes -/
theorem DecodeBlock_I (kb rd bf d : Nat) (ao : Option Addr) (ov : Bool) (b v : Int) (hb : -2147483648 ≤ b ∧ b < 2147483648) (hv : 51903 ≤ v) (tgt : Value) (m : Nat) (hm : m < 8) (w : World) (h : Rdr w rd bf d ao ((infoV ov b).take m)) (hk : w.heap[kb]? = some (blkC false 0 0 0)) (ho : Off kb rd bf d ao) :
    Calls Tryz.prog 18 #[.pointer (some ⟨kb, 0, none⟩), .pointer (some ⟨rd, 0, none⟩), .int .i64 v, tgt] w (Err1 (kb :: rdF rd bf ao) w) := by
  have hF := FeatIn 51903 v
  go_enter Tryz.func18, Tryz.ntmps18
  go_wp2_with (first
    | (go_at_call 24; (refine (hF _).mono ?_); rintro e w1 ⟨rfl, rfl⟩)
    | (go_at_call 33; (refine (InfoShort kb rd bf d ao ov b 0 0 hb m hm _ h hk ho).mono ?_); rintro e w2 ⟨⟨p1, rfl⟩, hU2⟩)
    | (go_at_call 27; (refine (errWrap p1 _ _).mono ?_); rintro e w4 ⟨⟨p4, rfl⟩, hu4⟩))
  go_ret
  exact ⟨⟨p4, rfl⟩, hU2.trans hu4 (by simp)⟩
set_option maxRecDepth 100000 in
set_option maxHeartbeats 1000000 in
theorem bkClosure_E (vb kb : Nat) (rd : Nat) (v : Int) (tgt : Value) (F : List Nat) (w : World) (hv : w.cell? ⟨vb, 0, none⟩ = some (.int .i64 v)) (hD : Calls Tryz.prog 18 #[.pointer (some ⟨kb, 0, none⟩), .pointer (some ⟨rd, 0, none⟩), .int .i64 v, tgt] w (Err1 F w)) :
    Calls Tryz.prog 17 #[.pointer (some ⟨kb, 0, none⟩), .pointer (some ⟨rd, 0, none⟩), tgt, .pointer (some ⟨vb, 0, none⟩)] w (Err1 F w) := by
  go_enter Tryz.func17, Tryz.ntmps17
  go_wp2_with (go_at_call 18; (refine hD.mono ?_); rintro e w1 ⟨⟨p1, rfl⟩, hU1⟩)
  go_ret
  exact ⟨⟨p1, rfl⟩, hU1⟩
/-- nothing is read -/
def NotRead (w : World) (e : Ending) (w' : World) : Prop := e = .returned (.tuple #[headV false 0 0 0, .slice none 0 0, .int .i64 0, .bool false]) ∧ Upd [] w w'
set_option maxRecDepth 100000 in
set_option maxHeartbeats 4000000 in
theorem decode_E (fB : FuncId) (hent : ∀ (args : Array Value) (w : World), (callFunc fB args).run Tryz.prog w = .ok (.enter fB args) w) (cap : Value) (bytes : List Value) (d o N c : Nat) (ac : Option Addr) (cc : Nat) (bs : List Bc) (hn : bs.length ≤ 10) (hok : ∀ x ∈ bs, KdOK x.K) (w : World)
    (hcv : View w 3 ac bs.length (bs.flatMap Bc.cells)) (hr : w.rangeAt d o bytes) (hN : N = bytes.length) (hNc : N ≤ c) (hby : AllBytes bytes) (hdl : d < w.heap.size)
    (hBy : ∀ (kb rd bf : Nat) (ar : Option Addr) (cr : Nat) (qs : List (Bc × Nat)) (W : World), Upd [] w W → qs.map Prod.fst = bs → Rdr W rd bf d none (bytes) → W.heap[kb]? = some (blkC false 0 0 0) → Off kb rd bf d none → DecPre W kb rd bf d none ar qs →
      Calls Tryz.prog fB #[.pointer (some ⟨kb, 0, none⟩), .pointer (some ⟨rd, 0, none⟩), .iface 86 (.slice ar bs.length cr), cap] W (Err1 (kF kb qs rd bf none) W)) :
    Calls Tryz.prog 16 #[.slice (some ⟨d, o, none⟩) N c, .slice ac bs.length cc, .func (Fn.func fB) #[] #[cap]] w (NotRead w) := by
  obtain ⟨n, hnn⟩ : ∃ n, n = bs.length := ⟨_, rfl⟩
  rw [← hnn] at hn hcv hBy ⊢
  have HN := Lib.hid hnn
  have HB := Lib.hid hN
  clear hnn hN
  obtain ⟨k1, u1, s1⟩ := alloc_facts w (Obj.cells #[.bool false, .int .i64 0, .int .i64 0, .int .i64 0] 30)
  obtain ⟨k2, u2, s2⟩ := alloc_facts (w.alloc (Obj.cells #[.bool false, .int .i64 0, .int .i64 0, .int .i64 0] 30)) (Obj.cells #[.bool false] 4)
  go_enter_defers Tryz.func16, Tryz.ntmps16
  go_wp2
  have k1' := u2.at k1 (by simp)
  have u12 := u1.trans u2 (fun _ h => .inl h)
  rw [s1] at k2 s2
  generalize (w.alloc (Obj.cells #[.bool false, .int .i64 0, .int .i64 0, .int .i64 0] 30)).alloc (Obj.cells #[.bool false] 4) = W2 at *
  clear u1 u2 s1 k1
  have hcv2 := hcv.upd u12 (by simp)
  go_loopw [7, 10, 11, 21] (fun a s l i wr => ∃ (k : Nat) (ar al : Option Addr) (cr cl : Nat) (qs : List (Bc × Nat)), k ≤ n ∧ a = .slice none 0 0 ∧ s = .slice ar k cr ∧ l = .slice al k cl ∧ i = .int .i64 k ∧ List.map Prod.fst qs = bs.take k ∧ Row wr 91 2 ar k cr (qs.flatMap inCells) ∧ Row wr 72 1 al k cl (qs.flatMap lCells) ∧
      (∀ q ∈ qs, EmpA wr W2.heap.size ar al q) ∧ qs.Pairwise (fun x y => x.2 < y.2) ∧ (∀ q ∈ qs, q.2 < wr.heap.size) ∧ Upd [] W2 wr ∧ In [] W2.heap.size ar ∧ In [] W2.heap.size al ∧ ∀ y, y ∈ bk ar → y ∉ bk al)
    (fun _ _ _ i _ => n - (intOf i).toNat)
  case atStart => exact ⟨0, none, none, 0, 0, [], Nat.zero_le _, rfl, rfl, rfl, rfl, rfl, Row.nil, Row.nil, by simp, List.Pairwise.nil, by simp, Upd.refl _ _, In.nil, In.nil, by simp⟩
  case round =>
    obtain ⟨k, ar, al, cr, cl, qs, hk, rfl, rfl, rfl, rfl, hqs, hRr, hRl, hE, hpw, hql, hU, hIr, hIl, hap⟩ := hrel
    by_cases hlt : k < n
    · have hk0 : ((k : Int) < n) := by omega
      have hkb : k < bs.length := by have := HN.out; omega
      obtain ⟨x, hx⟩ : ∃ x, x = bs[k] := ⟨_, rfl⟩
      have hxm : x ∈ bs := by rw [hx]; exact List.getElem_mem _
      obtain ⟨bb, oo, rfl, hrr, hbb⟩ := (hcv2.upd hU (by simp)).at_ (by omega)
      have hcl := cells_at Bc.cells 3 Bc.cells_len hrr k hkb
      rw [← hx] at hcl
      have d0 := hcl 0 (by omega)
      have d1 := hcl 1 (by omega)
      have d2 := hcl 2 (by omega)
      have hK := hok x hxm
      have HX := Lib.hid hx
      clear hx hcl hrr
      simp only [Bc.cells, Nat.add_zero, List.getElem?_cons_zero, List.getElem?_cons_succ] at d0 d1 d2
      obtain ⟨k3, u3, s3⟩ := alloc_facts wr (Obj.cells #[Value.string x.nm, Value.int IntKind.i64 x.K.kind, Value.slice x.ar x.rs.length x.cp] 35)
      obtain ⟨k4, u4, s4⟩ := alloc_facts (wr.alloc (Obj.cells #[Value.string x.nm, Value.int IntKind.i64 x.K.kind, Value.slice x.ar x.rs.length x.cp] 35)) (Obj.cells #[Value.slice none 0 0] x.K.tC)
      have u34 := u3.trans u4 (fun _ h => .inl h)
      have kk := u4.at k3 (by simp)
      rw [s3] at k4 s4
      have hH0 : Hold _ (wr.heap.size + 1) x.K.tC x.K.tE x.K.size none 0 0 [] := ⟨k4, Row.nil, by simp⟩
      have hRl4 := hRl.upd u34 (by simp)
      have hRr4 := hRr.upd u34 (by simp)
      go_wp2_with (first
        | (go_at_call 23; (with_reducible refine (hK.col _).mono ?_); rintro e w1 ⟨rfl, hw1⟩; rw [← hw1] at k4 s4 u34 kk hRl4 hRr4 hH0; clear hw1; try rw [s3]; have S4 := Lib.hid s4; clear s4)
        | (at_builtin; (refine wpList_app1 _ rfl _ _ 87 rfl 72 _ 1 16 Tryz.underlying87 Tryz.info72 rfl (by decide) hRl4 rfl (lCells (x, wr.heap.size + 1)) rfl rfl rfl (by simp [lCells, Value.oneCell']) (by decide) (by omega) ?_); intro al3 cl3 w3 hown3 hupd3 hin3; have e0 : w3.cell? ⟨wr.heap.size, 0, none⟩ = some (.string x.nm) := (by have := hupd3.at kk (fun hx => by have := hRl.lt _ hx; omega); simp [World.cell?, this]))
        | (at_builtin; (refine wpList_app1 _ rfl _ _ 86 rfl 91 _ 2 32 Tryz.underlying86 Tryz.info91 rfl (by decide) (hRr4.upd hupd3 hap) rfl (inCells (x, wr.heap.size + 1)) rfl rfl rfl (by simp [inCells, Value.oneCell']) (by decide) (by omega) ?_); intro ar5 cr5 w5 hown5 hupd5 hin5))
      have hs4 := S4.out
      have hws := hU.size
      have hUw1 : Upd [] W2 w1 := hU.trans u34 (fun _ h => .inl h)
      have hUw3 : Upd [] W2 w3 := hUw1.own hupd3 hIl
      have hU5 : Upd [] W2 w5 := hUw3.own hupd5 hIr
      have hs13 := hupd3.size
      have hs35 := hupd5.size
      have hIr5 : In [] W2.heap.size ar5 := hIr.step hin5 hUw3.size
      have hIl3 : In [] W2.heap.size al3 := hIl.step hin3 hUw1.size
      have hrl := hRr.lt
      have hll := hRl.lt
      have hl3 := hown3.lt
      have hap' : ∀ y, y ∈ bk al3 → y ∉ bk ar := fun y hy hx => by
        rcases hin3 y hy with h | h
        · exact hap y hx h
        · have := hrl y hx; omega
      have hap5 : ∀ y, y ∈ bk ar5 → y ∉ bk al3 := fun y hy hx => by
        rcases hin5 y hy with h | h
        · exact hap' y hx h
        · have := hl3 y hx; omega
      have hE1 : ∀ q ∈ qs ++ [(x, wr.heap.size + 1)], EmpA w1 W2.heap.size ar al q := fun q hq => by
        rcases List.mem_append.1 hq with hq | hq
        · exact (hE q hq).upd u34
        · simp at hq
          subst hq
          refine ⟨hH0, by show W2.heap.size ≤ wr.heap.size + 1; omega, fun hx => ?_, fun hx => ?_⟩
          · have := hrl _ hx; omega
          · have := hll _ hx; omega
      have hE5 : ∀ q ∈ qs ++ [(x, wr.heap.size + 1)], EmpA w5 W2.heap.size ar5 al3 q := fun q hq => ((hE1 q hq).stepL hupd3 hin3).stepR hupd5 hin5
      have hpw5 : (qs ++ [(x, wr.heap.size + 1)]).Pairwise (fun x y => x.2 < y.2) := List.pairwise_append.2 ⟨hpw, List.pairwise_singleton _ _, fun a ha y hy => by
        simp at hy
        subst hy
        have := hql a ha
        show a.2 < wr.heap.size + 1
        omega⟩
      have hql5 : ∀ q ∈ qs ++ [(x, wr.heap.size + 1)], q.2 < w5.heap.size := fun q hq => by
        rcases List.mem_append.1 hq with hq | hq
        · have := hql q hq; omega
        · simp at hq
          subst hq
          show wr.heap.size + 1 < _
          omega
      have hRr5 : Row w5 91 2 ar5 (k + 1) cr5 ((qs ++ [(x, wr.heap.size + 1)]).flatMap inCells) := by
        rw [List.flatMap_append, List.flatMap_singleton]
        exact hown5
      have hRl5 : Row w5 72 1 al3 (k + 1) cl3 ((qs ++ [(x, wr.heap.size + 1)]).flatMap lCells) := by
        rw [List.flatMap_append, List.flatMap_singleton]
        exact hown3.upd hupd5 hap'
      have hqs5 : (qs ++ [(x, wr.heap.size + 1)]).map Prod.fst = bs.take (k + 1) := by
        rw [List.take_succ_eq_append_getElem hkb, ← HX.out, List.map_append, hqs]
        rfl
      go_roundw
      case rel => exact ⟨k + 1, ar5, al3, cr5, cl3, _, by omega, rfl, rfl, rfl, by go_num, hqs5, hRr5, hRl5, hE5, hpw5, hql5, hU5, hIr5, hIl3, hap5⟩
      case measure => simp [intOf]; omega
    · have hk0 : ¬ ((k : Int) < n) := by omega
      obtain rfl : k = n := by omega
      rw [List.take_of_length_le (by have := HN.out; omega)] at hqs
      go_wp2_with (first
        | (go_at_call 29; (refine (NewReader _ _ _ _).mono ?_); rintro e w3 ⟨rfl, rfl⟩)
        | ((with_reducible show Calls _ fB _ _ _); apply stopHere))
      show Calls _ _ _ _ _
      have hBs := HB.out
      have hqn : qs.length = k := by rw [← List.length_map (f := Prod.fst), hqs]; exact HN.out.symm
      obtain ⟨k3, u3, s3⟩ := alloc_facts wr (Obj.cells #[.bool false, .int .i64 0, .int .i64 0, .int .i64 0] 52)
      obtain ⟨k4, u4, s4⟩ := alloc_facts (wr.alloc (Obj.cells #[.bool false, .int .i64 0, .int .i64 0, .int .i64 0] 52)) (Obj.cells #[.slice none 0 0] 46)
      obtain ⟨k5, u5, s5⟩ := alloc_facts ((wr.alloc (Obj.cells #[.bool false, .int .i64 0, .int .i64 0, .int .i64 0] 52)).alloc (Obj.cells #[.slice none 0 0] 46)) (Obj.cells #[.slice (some ⟨d, o, none⟩) N c, .pointer (some ⟨wr.heap.size + 1, 0, none⟩)] 216)
      have kk3 := u5.at (u4.at k3 (by simp)) (by simp)
      have kk4 := u5.at k4 (by simp)
      have u35 := (u3.trans u4 (fun _ h => .inl h)).trans u5 (fun _ h => .inl h)
      rw [s3] at s4 kk4
      rw [s4] at s5 k5
      generalize ((wr.alloc (Obj.cells #[.bool false, .int .i64 0, .int .i64 0, .int .i64 0] 52)).alloc (Obj.cells #[.slice none 0 0] 46)).alloc (Obj.cells #[.slice (some ⟨d, o, none⟩) N c, .pointer (some ⟨wr.heap.size + 1, 0, none⟩)] 216) = W at *
      clear u3 u4 u5 k3 k4 s3 s4
      have hUW : Upd [] W2 W := hU.trans u35 (fun _ h => .inl h)
      have hwW : Upd [] w W := u12.trans hUW (fun _ h => .inl h)
      have hws := hU.size
      have hw2 := u12.size
      have hrl := hRr.lt
      have hll := hRl.lt
      have hrW := hwW.range hr hdl (by simp)
      have hRd : Rdr W (wr.heap.size + 1 + 1) (wr.heap.size + 1) d none bytes :=
        ⟨⟨o, c, by rw [← HB.out]; exact k5, by rw [← HB.out]; exact hNc, hrW⟩, hby, Nat.lt_of_lt_of_le hdl hwW.size, ⟨0, 0, [], ⟨kk4, Row.nil, by simp⟩⟩, by omega, by omega, by omega, by simp, by simp⟩
      have hOff : Off wr.heap.size (wr.heap.size + 1 + 1) (wr.heap.size + 1) d none := ⟨by omega, by omega, by omega, by simp⟩
      have hnotF : ∀ x, x < wr.heap.size → x ∉ qs.map Prod.snd → x ∉ wr.heap.size :: colF qs (wr.heap.size + 1 + 1) (wr.heap.size + 1) none := fun x hx hq hx' => by
        rcases List.mem_cons.1 hx' with e | e
        · omega
        · rcases List.mem_append.1 e with e | e
          · exact hq e
          · simp [rdF] at e; omega
      have hDP : DecPre W wr.heap.size (wr.heap.size + 1 + 1) (wr.heap.size + 1) d none ar qs := by
        refine ⟨by rw [hqn]; exact hRr.toView.upd u35 (by simp), fun x hx => hnotF x (hrl x hx) (fun hq => ?_), fun x hx => Nat.lt_of_lt_of_le (hrl x hx) u35.size, fun q hq => ⟨(hE q hq).1.kept u35 (by simp) (by simp), fun hx => ?_⟩, fun q hq e => ?_, fun q hq e => ?_, fun i j hi hj hij => ?_⟩
        · obtain ⟨q, hq, e⟩ := List.mem_map.1 hq
          exact (hE q hq).2.2.1 (by rw [e]; exact hx)
        · have := hql q hq
          simp [rdF] at hx; omega
        · have := (hE q hq).2.1; omega
        · have := hql q hq; omega
        · have hpg := List.pairwise_iff_getElem.1 hpw
          rcases Nat.lt_or_gt_of_ne hij with h | h
          · have := hpg i j hi hj h; omega
          · have := hpg j i hj hi h; omega
      refine (hBy wr.heap.size (wr.heap.size + 1 + 1) (wr.heap.size + 1) ar cr qs W hwW hqs hRd kk3 hOff hDP).mono ?_
      rintro e w6 ⟨⟨p1, rfl⟩, hU6⟩
      dsimp only
      have hF0 : ∀ x, x < W2.heap.size → x ∉ wr.heap.size :: colF qs (wr.heap.size + 1 + 1) (wr.heap.size + 1) none := fun x hx => hnotF x (by omega) (fun hq => by
        obtain ⟨q, hq, e⟩ := List.mem_map.1 hq
        have := (hE q hq).2.1
        omega)
      have d1 := hU6.at (hUW.at k1' (by simp)) (hF0 _ (by rw [s2]; omega))
      have d2 := hU6.at (hUW.at k2 (by simp)) (hF0 _ (by rw [s2]; omega))
      have huA : Upd [] w w6 := hwW.trans hU6 (fun y hy => .inr (by
        rcases List.mem_cons.1 hy with e | e
        · omega
        · rcases List.mem_append.1 e with e | e
          · obtain ⟨q, hq, e⟩ := List.mem_map.1 e
            have := (hE q hq).2.1
            omega
          · simp [rdF] at e; omega))
      have hHU := Lib.hid huA
      clear k5 kk3 kk4 hRd hOff hDP hU6 hqs hrW hE hpw hql hRr hRl hBs hF0 hnotF huA
      go_wp2_with ((with_reducible show wpList _ _ _ _ _ _); refine wpList_store_blk rfl 30 (.tmp 6) (.tmp 51) rfl (b := w.heap.size) rfl d1 (cs := [.bool false, .int .i64 0, .int .i64 0, .int .i64 0]) rfl rfl (by kernel_rfl) (by simp [Value.oneCell']) ?_; intro w9 hb9 hu9; simp only [Act.put]; have e3 := hu9.at d2 (by simp); have g3 := cell_of_one e3; have f3 := free_of_one e3)
      have hsc := (Upd.refl [w.heap.size + 1] w9).setCell (p := ⟨w.heap.size + 1, 0, none⟩) (Value.bool false) (by simp)
      have hcB := cell_of_one (one_setCell (u := .bool false) e3)
      have z0 : w9.cell? ⟨w.heap.size, 0, none⟩ = some (.bool false) := (cellAt hb9 0).trans rfl
      have z1 : w9.cell? ⟨w.heap.size, 1, none⟩ = some (.int .i64 0) := (cellAt hb9 1).trans rfl
      have z2 : w9.cell? ⟨w.heap.size, 2, none⟩ = some (.int .i64 0) := (cellAt hb9 2).trans rfl
      have z3 : w9.cell? ⟨w.heap.size, 3, none⟩ = some (.int .i64 0) := (cellAt hb9 3).trans rfl
      have hfin : Upd [] w (w9.setCell ⟨w.heap.size + 1, 0, none⟩ (.bool false)) := (hHU.out.trans hu9 (fun y hy => .inr (by simp at hy; omega))).trans hsc (fun y hy => .inr (by simp at hy; omega))
      refine leaves_cons (f := 28) (args := #[.pointer (some ⟨w.heap.size + 1, 0, none⟩)]) (by simp) (by simp [go_sem]) ?_
      refine (caught_idle ⟨w.heap.size + 1, 0, none⟩ _).mono ?_
      rintro e u' w'' ⟨rfl, rfl, rfl⟩
      simp [Leaves, settle, results, Tryz.results16, go_sem, hcB, z0, z1, z2, z3]
      exact ⟨rfl, hfin⟩
theorem NotRead.from {w w1 : World} {e : Ending} {w' : World} (h : NotRead w1 e w') (hu : Upd [] w w1) : NotRead w e w' := ⟨h.1, hu.trans h.2 (by simp)⟩
set_option maxRecDepth 100000 in
set_option maxHeartbeats 1000000 in
theorem BKDecode_E (v : Int) (bytes : List Value) (d o N c : Nat) (ac : Option Addr) (cc : Nat) (bs : List Bc) (hn : bs.length ≤ 10) (hok : ∀ x ∈ bs, KdOK x.K) (w : World)
    (hcv : View w 3 ac bs.length (bs.flatMap Bc.cells)) (hr : w.rangeAt d o bytes) (hN : N = bytes.length) (hNc : N ≤ c) (hby : AllBytes bytes) (hdl : d < w.heap.size)
    (hBy : ∀ (kb rd bf : Nat) (ar : Option Addr) (cr : Nat) (qs : List (Bc × Nat)) (W : World), qs.map Prod.fst = bs → Rdr W rd bf d none (bytes) → W.heap[kb]? = some (blkC false 0 0 0) → Off kb rd bf d none → DecPre W kb rd bf d none ar qs →
      Calls Tryz.prog 18 #[.pointer (some ⟨kb, 0, none⟩), .pointer (some ⟨rd, 0, none⟩), .int .i64 v, .iface 86 (.slice ar bs.length cr)] W (Err1 (kF kb qs rd bf none) W)) :
    Calls Tryz.prog 10 #[.slice (some ⟨d, o, none⟩) N c, .int .i64 v, .slice ac bs.length cc] w (NotRead w) := by
  have hmf : ∀ (fn : Fn) (first cap : Array Value) (w : World), (Instr.makeFunc fn first cap).run Tryz.prog w = .ok (.func fn first cap) w := fun _ _ _ _ => rfl
  obtain ⟨k1, u1, s1⟩ := alloc_facts w (Obj.cells #[.int .i64 v] 3)
  obtain ⟨k2, u2, s2⟩ := alloc_facts (w.alloc (Obj.cells #[.int .i64 v] 3)) (Obj.cells #[.bool false, .int .i64 0, .int .i64 0, .int .i64 0] 30)
  have k1' := cell_of_one (u2.at k1 (by simp))
  have u12 := u1.trans u2 (fun _ h => .inl h)
  rw [s1] at k2 s2
  have hent : ∀ (args : Array Value) (w : World), (callFunc 17 args).run Tryz.prog w = .ok (.enter 17 args) w := fun _ _ => by kernel_rfl
  have hd := decode_E 17 hent (.pointer (some ⟨w.heap.size, 0, none⟩)) bytes d o N c ac cc bs hn hok _ (hcv.upd u12 (by simp)) (u12.range hr hdl (by simp)) hN hNc hby (Nat.lt_of_lt_of_le hdl u12.size)
    (fun kb rd bf ar cr qs W hu hqs hRd hk ho hp => bkClosure_E w.heap.size kb rd v _ _ W (hu.cell1 k1' (by simp)) (hBy kb rd bf ar cr qs W hqs hRd hk ho hp))
  clear hr hN hcv hBy
  go_enter Tryz.func10, Tryz.ntmps10
  go_wp2_with (first
    | (go_at_call 16; (refine hd.mono ?_); rintro e w3 ⟨rfl, hu3⟩; have k3 := hu3.at k2 (by simp); simp only [headV])
    | ((with_reducible show wpList _ _ _ _ _ _); refine wpList_store_blk rfl 30 (.tmp 6) (.tmp 14) rfl (b := w.heap.size + 1) rfl k3 (cs := [.bool false, .int .i64 0, .int .i64 0, .int .i64 0]) rfl rfl (by kernel_rfl) (by simp [Value.oneCell']) ?_; intro w4 hb4 hu4; simp only [Act.put]))
  have z0 : w4.cell? ⟨w.heap.size + 1, 0, none⟩ = some (.bool false) := (cellAt hb4 0).trans rfl
  have z1 : w4.cell? ⟨w.heap.size + 1, 1, none⟩ = some (.int .i64 0) := (cellAt hb4 1).trans rfl
  have z2 : w4.cell? ⟨w.heap.size + 1, 2, none⟩ = some (.int .i64 0) := (cellAt hb4 2).trans rfl
  have z3 : w4.cell? ⟨w.heap.size + 1, 3, none⟩ = some (.int .i64 0) := (cellAt hb4 3).trans rfl
  have huA : Upd [] w w4 := (u12.trans hu3 (fun _ h => .inl h)).trans hu4 (fun y hy => .inr (by simp at hy; omega))
  refine bodyPost_ret (v := .tuple #[headV false 0 0 0, .slice none 0 0, .int .i64 0, .bool false]) ?_ rfl ⟨rfl, huA⟩
  simp [results, Tryz.results10, go_sem, z0, z1, z2, z3]
  try rfl
end Go.Proofs.YtfbohkbpgfnceaaGreatDoor
