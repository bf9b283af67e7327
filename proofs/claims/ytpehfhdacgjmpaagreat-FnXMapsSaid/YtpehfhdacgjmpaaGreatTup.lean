/- Tuples of a string, a number of 32 bits and an array of strings: what impl.ARTuple encodes. -/
import Derived.Test.YtpehfhdacgjmpaaGreatGen
import Derived.Test.YtpehfhdacgjmpaaGreatKinds
namespace Go.Proofs.YtpehfhdacgjmpaaGreat
open Go Go.RowKit
theorem View.srcT {w : World} {ao : Option Addr} {n c : Nat} {bs : List Value} {T e : TypeId} (hT : Tryz.prog.underlying T = some (.slice e)) (hv : View w 1 ao n bs) (h1 : ∀ u ∈ bs, u.oneCell' = true) : Src Tryz.prog 1 T (.slice ao n c) n bs w := by
  have hl := hv.len
  by_cases h0 : n = 0
  · subst h0
    obtain rfl : bs = [] := List.eq_nil_of_length_eq_zero (by simpa using hl)
    cases ao with
    | none => exact Src.ofNil _ hT _
    | some a => exact Src.ofSlice _ hT a 0 c [] rfl (by simp) (by simp)
  · obtain ⟨b, o, rfl, hr, hb⟩ := hv.at_ (by omega)
    exact Src.ofRange hT hl hr h1
set_option maxRecDepth 100000 in
set_option maxHeartbeats 400000 in
theorem ColUInt32_AppendArr (p : Nat) (ao : Option Addr) (n c : Nat) (xs : List Value) (av : Option Addr) (m cv : Nat) (ys : List Int) (w : World) (h : Hold w p 96 53 1 ao n c xs) (hv : View w 1 av m (ys.map (Value.int .u32))) (hn : n ≤ 1000000) (hm : m ≤ 1000000) :
    Calls Tryz.prog 46 #[.pointer (some ⟨p, 0, none⟩), .slice av m cv] w fun e w' => e = .returned (.tuple #[]) ∧ Grew w w' p 96 53 1 ao (n + m) (xs ++ ys.map (Value.int .u32)) := by
  have hc := h.cell
  have hone : ∀ u ∈ ys.map (Value.int .u32), u.oneCell' = true := fun u hu => by
    obtain ⟨y, _, rfl⟩ := List.mem_map.1 hu
    rfl
  go_enter Tryz.func46, Tryz.ntmps46
  go_wp2_with (at_builtin; refine wpList_app _ rfl (.tmp 7) (.tmp 8) 96 52 rfl 53 (.int .u32 0) 1 4 Tryz.underlying96 Tryz.info53 rfl (by decide) h.own rfl (hv.srcT Tryz.underlying52 hone) rfl (by decide) (by omega) ?_; intro ao1 c1 w1 hown1 hupd1 hin1; have hc1 := h.cell1 hupd1; have hf1 := h.free1 hupd1)
  go_end0
  exact ⟨rfl, _, _, h.after hown1 hupd1 hin1, h.upd hupd1 _, hin1⟩

/-! ### ColArr.AppendArr -/
set_option maxRecDepth 100000 in
set_option maxHeartbeats 2000000 in
theorem ColArr_AppendArr (q : Nat) (F : List Nat) (ar : Option Addr) (n c : Nat) (vs : List Value) (sss : List (List ByteArray)) (w : World) (h : ArrCol w q F [] []) (hr : View w 1 ar n vs) (hS : StrsV w n vs sss) (hfew : Few sss) (hF : ∀ x, x ∈ F → ∀ y, ((0 < n ∧ y ∈ bk ar) ∨ ∃ (k : Nat) (ax : Option Addr) (l cx : Nat), vs[k]? = some (Value.slice ax l cx) ∧ y ∈ bk ax ∧ 0 < l) → x ≠ y) :
    Calls Tryz.prog 47 #[.pointer (some ⟨q, 0, none⟩), .slice ar n c] w fun e w' => e = .returned (.tuple #[]) ∧ ∃ F', ArrCol w' q F' (endsN sss n) (sss.flatten.map byteCells) ∧ Upd F w w' ∧ Grows w.heap.size F F' := by
  have hlen := hS.lent
  have hrows := hfew.rows
  go_enter Tryz.func47, Tryz.ntmps47
  go_wp2
  go_loopw [8] (fun i wr => ∃ (k : Nat) (F' : List Nat), k ≤ n ∧ i = .int .i64 k ∧ ArrCol wr q F' (endsN sss k) ((sss.take k).flatten.map byteCells) ∧ Upd F w wr ∧ Grows w.heap.size F F')
    (fun i _ => n - (intOf i).toNat)
  case atStart => exact ⟨0, F, Nat.zero_le _, rfl, by simpa [endsN] using h, Upd.refl _ _, fun x hx => .inl hx⟩
  case round =>
    obtain ⟨k, F', hk, rfl, hC0, hU, hG⟩ := hrel
    by_cases hlt : k < n
    · have hk0 : ((k : Int) < n) := by omega
      obtain ⟨b, o, rfl, hrr, hbb⟩ := hr.at_ (by omega)
      obtain ⟨ax, cx, hv1, hv2⟩ := hS.at_ k hlt
      obtain ⟨ss, hss⟩ : ∃ ss, ss = sss[k]'(by omega) := ⟨_, rfl⟩
      rw [← hss] at hv1 hv2
      have hsk := hfew.strs ss (by rw [hss]; exact List.getElem_mem _)
      have hbF : b ∉ F := fun hx => hF b hx b (.inl ⟨by omega, by simp⟩) rfl
      have hcell : wr.cell? ⟨b, o + k, none⟩ = some (.slice ax ss.length cx) := by rw [hU.cell hbb hbF]; exact hrr k _ hv1
      have haxF : 0 < ss.length → ∀ x, x ∈ bk ax → x ∉ F := fun h0 x hx hx' => hF x hx' x (.inr ⟨k, ax, _, cx, hv1, hx, h0⟩) rfl
      have hv : View wr 1 ax ss.length (ss.map Value.string) := by
        by_cases h0 : 0 < ss.length
        · exact hv2.upd hU (haxF h0)
        · have : ss = [] := List.eq_nil_of_length_eq_zero (by omega)
          subst this
          exact View.nil
      have haxF' : 0 < ss.length → ∀ x, x ∈ bk ax → x ∉ F' := fun h0 x hx' hx'' => (hG x hx'').elim (haxF h0 x hx') (fun h => by have := hv2.lt h0 x hx'; omega)
      have b1 := hfew.len k
      have b2 := hfew.tot k
      have e1 : (sss.take (k + 1)).flatten = (sss.take k).flatten ++ ss := by rw [List.take_succ_eq_append_getElem (by omega), List.flatten_append, ← hss]; simp
      have e2 := endsN_succ sss k
      rw [e1, List.length_append] at e2
      have hel := endsN_len sss k
      have hb1 : ((sss.take k).flatten.map byteCells).length = (sss.take k).flatten.length := List.length_map ..
      obtain ⟨tk, htk⟩ : ∃ tk, tk = (sss.take k).flatten.map byteCells := ⟨_, rfl⟩
      obtain ⟨tk1, htk1⟩ : ∃ tk1, tk1 = (sss.take (k + 1)).flatten.map byteCells := ⟨_, rfl⟩
      have e3 : tk1 = tk ++ ss.map byteCells := by rw [htk1, e1, List.map_append, ← htk]
      obtain ⟨en, hen⟩ : ∃ en, en = endsN sss k := ⟨_, rfl⟩
      obtain ⟨en1, hen1⟩ : ∃ en1, en1 = endsN sss (k + 1) := ⟨_, rfl⟩
      rw [← hb1, ← htk, ← hen, ← hen1] at e2
      rw [← htk, ← hen] at hC0
      rw [← htk] at b2
      rw [← hen] at hel
      rw [← hb1, ← htk] at b1
      have H2 := Lib.hid e2
      have H3 := Lib.hid e3
      have H5 := Lib.hid htk1
      have H6 := Lib.hid hen1
      have HEL := Lib.hid hel
      clear hss e1 e2 e3 htk htk1 hen hen1 hb1 hel
      obtain ⟨ao, co, p, Fs, hH, hC, hq, hsep, hqF, haF, hsF, hlt'⟩ := hC0
      have c1 := hH.cellN 0 (v := .iface 87 (.pointer (some ⟨p, 0, none⟩))) rfl
      have hmA := methAA_S p
      go_wp2_with (go_at_call 45; go_loud (refine (ColStr_AppendArr p Fs tk ax ss.length cx ss wr hC hv (fun h0 x hx hx' => haxF' h0 x hx (hsF x hx')) (by omega) (fun s hs => by have := hsk.2 s hs; omega) (by omega) (by omega)).mono ?_); rintro e w1 ⟨rfl, Fs1, hC1, hU1, hG1⟩)
      have hH1 := hH.kept hU1 hq hsep
      have q0 := hH1.cell
      have q1 := hH1.cellN 0 (v := .iface 87 (.pointer (some ⟨p, 0, none⟩))) rfl
      have hd := (Upd.refl [] w1).drew
      have hCd := hC1.kept hd (by simp)
      have hl1 : (tk ++ ss.map byteCells).length = tk.length + ss.length := by simp
      obtain ⟨ab, nb, cb, ap, cp, hld⟩ := hCd.load
      rw [hl1] at hld
      have hmR := methR_S p _ _ hld
      clear hl1
      refine wp_region_split (S := Upd [] w1) [(false, 0), (true, 1), (true, 2), (true, 3), (true, 4), (true, 5), (true, 6), (true, 7), (true, 8)] [9, 10, 11] [12, 13, 14, 15] (by kernel_rfl) (by kernel_rfl) (fun _ _ d _ _ h => by cases d <;> exact h) ((Upd.refl _ _).drew) ?_
      simp only [readsAt, opersAt, Option.map_some, List.filterMap_cons, List.filterMap_nil, List.getElem?_toArray, List.getElem?_cons_succ, List.getElem?_cons_zero]
      refine ⟨_, Or.inl ⟨by rfl, fun w' hS => by first | (go_simp; done) | (go_simp; with_reducible rfl)⟩, ?_⟩
      simp only [Act.put, List.setIfInBounds_toArray, List.set_cons_zero, List.set_cons_succ]
      refine ⟨_, Or.inl ⟨by rfl, fun w' hS => by first | (go_simp; done) | (go_simp; with_reducible rfl)⟩, ?_⟩
      simp only [Act.put, List.setIfInBounds_toArray, List.set_cons_zero, List.set_cons_succ]
      refine ⟨_, Or.inl ⟨by rfl, fun w' hS => by first | (go_simp; done) | (go_simp; with_reducible rfl)⟩, ?_⟩
      simp only [Act.put, List.setIfInBounds_toArray, List.set_cons_zero, List.set_cons_succ]
      refine ⟨_, Or.inl ⟨by rfl, fun w' hS => by first | (go_simp; done) | (go_simp; with_reducible rfl)⟩, ?_⟩
      simp only [Act.put, List.setIfInBounds_toArray, List.set_cons_zero, List.set_cons_succ]
      refine ⟨_, Or.inl ⟨by rfl, fun w' hS => by have e0 := Upd.cell1 hS q0 (by simp); have e1 := Upd.cell1 hS q1 (by simp); first | (go_simp; done) | (go_simp; with_reducible rfl)⟩, ?_⟩
      simp only [Act.put, List.setIfInBounds_toArray, List.set_cons_zero, List.set_cons_succ]
      refine ⟨_, Or.inl ⟨by rfl, fun w' hS => by first | (go_simp; done) | (go_simp; with_reducible rfl)⟩, ?_⟩
      simp only [Act.put, List.setIfInBounds_toArray, List.set_cons_zero, List.set_cons_succ]
      refine ⟨_, Or.inl ⟨by rfl, fun w' hS => by first | (go_simp; done) | (go_simp; with_reducible rfl)⟩, ?_⟩
      simp only [Act.put, List.setIfInBounds_toArray, List.set_cons_zero, List.set_cons_succ]
      refine ⟨_, Or.inl ⟨by rfl, fun w' hS => by first | (go_simp; done) | (go_simp; with_reducible rfl)⟩, ?_⟩
      simp only [Act.put, List.setIfInBounds_toArray, List.set_cons_zero, List.set_cons_succ]
      refine ⟨_, Or.inl ⟨by rfl, fun w' hS => by have e0 := Upd.cell1 hS q0 (by simp); have e1 := Upd.cell1 hS q1 (by simp); first | (go_simp; done) | (go_simp; with_reducible rfl)⟩, ?_⟩
      simp only [Act.put, List.setIfInBounds_toArray, List.set_cons_zero, List.set_cons_succ]
      intro L0 hL0
      rw [if_pos (by rfl)]
      go_simp; refine (Rows_S _ _ _ _ _ _ _).mono ?_; rintro e w2 ⟨rfl, hu2⟩
      refine hL0 _ _ ⟨hu2.ofDrew, ?_⟩
      clear hL0 L0
      intro L1 hL1
      rw [if_pos (by rfl)]
      go_simp
      refine hL1 _ _ ⟨hu2.ofDrew, ?_⟩
      clear hL1 L1
      intro L2 hL2
      rw [if_pos (by rfl)]
      go_simp
      refine hL2 _ _ ⟨hu2.ofDrew.alloc _, ?_⟩
      clear hL2 L2
      try simp only [preThen]
      change wpList _ _ _ [_, _, _, _] _ _
      have hHd := hH1.kept hu2.ofDrew (by simp) (by simp)
      have hwu : IntKind.u64.wrap ((tk.length : Int) + ss.length) = ((tk.length + ss.length : Nat) : Int) := by
        rw [IntWalk.u64_in _ (by omega)]; omega
      rw [hwu]
      refine wpList_app1 _ rfl (.tmp 22) (.tmp 29) 202 rfl 26 (.int .u64 0) 1 8 Tryz.underlying202 Tryz.info26 rfl (by decide) hHd.own rfl [.int .u64 ((tk.length + ss.length : Nat) : Int)] rfl rfl rfl (by simp [Value.oneCell']) (by decide) (by have := HEL.out; omega) ?_
      intro ao1 c1' w3 hown1 hupd1 hin1
      have hc1 := hHd.cell1 hupd1
      have hf1 := hHd.free1 hupd1
      have hU12 := hu2.ofDrew
      have hq1 : q ∉ Fs1 := fun hx => (hG1 q hx).elim hq (fun h => by have := hlt' q hqF; omega)
      have hs1 : ∀ x, x ∈ bk ao → x ∉ Fs1 := fun x hx hx' => (hG1 x hx').elim (hsep x hx) (fun h => by have := hlt' x (haF x hx); omega)
      have hF1 := hC1.lt
      have hs2 : ∀ x, x ∈ bk ao1 → x ∉ Fs1 := fun x hx hx' => (hin1 x hx).elim (fun h => hs1 x h hx') (fun h => by have := hF1 x hx'; have := hU12.size; omega)
      have v3 := hHd.upd hupd1 (.slice ao1 (en.length + 1) c1')
      have hC3 : StrCol (w3.setCell ⟨q, 0, none⟩ (.slice ao1 (en.length + 1) c1')) p Fs1 (tk ++ ss.map byteCells) := (hC1.kept hU12 (by simp)).kept v3 (fun x hx hx' => by
        rcases List.mem_cons.1 hx' with h | h
        · exact hq1 (h ▸ hx)
        · exact hs1 x h hx)
      have hH3 := hHd.after hown1 hupd1 hin1
      have hUF : Upd F' wr (w3.setCell ⟨q, 0, none⟩ (.slice ao1 (en.length + 1) c1')) := ((hU1.mono (fun x hx => .inl (hsF x hx))).trans hU12 (by simp)).trans v3 (fun x hx => .inl (by
        rcases List.mem_cons.1 hx with h | h
        · rw [h]; exact hqF
        · exact haF x h))
      have hGx0 : Grows wr.heap.size F' (q :: (bk ao1 ++ Fs1)) := by
        intro x hx
        rcases List.mem_cons.1 hx with h | h
        · exact .inl (by rw [h]; exact hqF)
        · rcases List.mem_append.1 h with h | h
          · exact (hin1 x h).imp (haF x) (fun h => by have := hU12.size; have := hU1.size; omega)
          · exact (hG1 x h).imp (hsF x) id
      have hCx : ArrCol (w3.setCell ⟨q, 0, none⟩ (.slice ao1 (en.length + 1) c1')) q (q :: (bk ao1 ++ Fs1)) (endsN sss (k + 1)) ((sss.take (k + 1)).flatten.map byteCells) := by
        rw [← H6.out, ← H5.out, H2.out, H3.out]
        refine ⟨ao1, c1', p, Fs1, ?_, hC3, hq1, hs2, by simp, fun x hx => by simp [hx], fun x hx => by simp [hx], ?_⟩
        · simpa using hH3
        · intro x hx
          rcases List.mem_cons.1 hx with h | h
          · rw [h]; exact hH3.lt
          · rcases List.mem_append.1 h with h | h
            · exact hH3.bk_lt x h
            · exact hC3.lt x h
      have hUx : Upd F w (w3.setCell ⟨q, 0, none⟩ (.slice ao1 (en.length + 1) c1')) := hU.trans hUF hG
      have hGx : Grows w.heap.size F (q :: (bk ao1 ++ Fs1)) := fun x hx => (hGx0 x hx).elim (hG x) (fun h => .inr (Nat.le_trans hU.size h))
      clear hGx0 hUF hH3 hC3 v3 hs2 hF1 hs1 hq1 hHd hwu hmR hld hCd hd q0 q1 hH1 hC1 hG1
      go_wp2
      go_roundw
      case rel => exact ⟨k + 1, _, by omega, by go_num, hCx, hUx, hGx⟩
      case measure => simp [intOf]; omega
    · have hk0 : n ≤ k := by omega
      obtain rfl : k = n := by omega
      rw [List.take_of_length_le (by omega)] at hC0
      go_wp2
      go_end0
      exact ⟨rfl, F', hC0, hU, hG⟩

/-! ### the tuple -/
theorem ta_S' (p : Nat) (w : World) : (Instr.typeAssert (.iface 87 (.pointer (some ⟨p, 0, none⟩))) 325 439 true).run Tryz.prog w = .ok (.tuple #[.nilIface, .bool false]) w := run_typeAssert_lacksB Tryz.underlying439 (by kernel_rfl) (by kernel_rfl) _ _ w
theorem ta_U (p : Nat) (w : World) : (Instr.typeAssert (.iface 95 (.pointer (some ⟨p, 0, none⟩))) 325 439 true).run Tryz.prog w = .ok (.tuple #[.nilIface, .bool false]) w := run_typeAssert_lacksB Tryz.underlying439 (by kernel_rfl) (by kernel_rfl) _ _ w
theorem ta_T (v : Value) (w : World) : (Instr.typeAssert (.iface 102 v) 325 439 true).run Tryz.prog w = .ok (.tuple #[.iface 102 v, .bool true]) w := by kernel_rfl
theorem methP_T (a : Option Addr) (n c : Nat) (w : World) : (method 706 102 (.slice a n c) "Prepare").run Tryz.prog w = .ok (210, .slice a n c) w := by kernel_rfl
theorem methE_T (a : Option Addr) (n c : Nat) (w : World) : (method 706 102 (.slice a n c) "EncodeColumn").run Tryz.prog w = .ok (209, .slice a n c) w := by kernel_rfl
theorem methP_u32 (p : Nat) (w : World) (v : Value) (h : (loadVar 96 ⟨p, 0, none⟩).run Tryz.prog w = .ok v w) : (method 706 95 (.pointer (some ⟨p, 0, none⟩)) "EncodeColumn").run Tryz.prog w = .ok (201, v) w := by
  rw [show 706 = (706 - 1) + 1 from rfl, methE2_u32]
  simp only [Sem.run_bind, methE3_u32, h, Result.andThen_ok, Sem.run_pure]
/-- the three columns of a tuple, in block g -/
structure TupCol (w : World) (g p r q : Nat) (Fp Fq : List Nat) (ao : Option Addr) (m c : Nat) (ts : List (List Value)) (bs : List Int) (ends : List Int) (tss : List (List Value)) : Prop where
  blk : w.heap[g]? = some (.cells #[.iface 87 (.pointer (some ⟨p, 0, none⟩)), .iface 95 (.pointer (some ⟨r, 0, none⟩)), .iface 81 (.pointer (some ⟨q, 0, none⟩))] 325 (0, 0))
  s : StrCol w p Fp ts
  u : Hold w r 96 53 1 ao m c (bs.map (Value.int .u32))
  a : ArrCol w q Fq ends tss
theorem TupCol.kept {w w' : World} {g p r q : Nat} {Fp Fq G : List Nat} {ao : Option Addr} {m c : Nat} {ts : List (List Value)} {bs : List Int} {ends : List Int} {tss : List (List Value)} (h : TupCol w g p r q Fp Fq ao m c ts bs ends tss) (hu : Upd G w w') (B : Nat) (hB : w.heap.size ≤ B) (hG : ∀ x, x ∈ G → B ≤ x) : TupCol w' g p r q Fp Fq ao m c ts bs ends tss :=
  ⟨hu.at h.blk (fun hx => by have := hG _ hx; have := lt_of_block h.blk; omega), h.s.kept hu (fun x hx hx' => by have := hG x hx'; have := h.s.lt x hx; omega),
   h.u.kept hu (fun hx => by have := hG _ hx; have := h.u.lt; omega) (fun x hx hx' => by have := hG x hx'; have := h.u.bk_lt x hx; omega), h.a.kept hu (fun x hx hx' => by have := hG x hx'; have := h.a.lt x hx; omega)⟩
set_option maxRecDepth 100000 in
set_option maxHeartbeats 1000000 in
theorem Prepare_T (g p r q : Nat) (Fp Fq : List Nat) (ao : Option Addr) (m c : Nat) (ts : List (List Value)) (bs : List Int) (ends : List Int) (tss : List (List Value)) (w : World) (h : TupCol w g p r q Fp Fq ao m c ts bs ends tss) :
    Calls Tryz.prog 210 #[.slice (some ⟨g, 0, none⟩) 3 3] w fun e w' => e = .returned .nilIface ∧ Upd [] w w' := by
  have c0 : w.cell? ⟨g, 0, none⟩ = some (.iface 87 (.pointer (some ⟨p, 0, none⟩))) := by simp only [World.cell?, h.blk]; rfl
  have c1 : w.cell? ⟨g, 1, none⟩ = some (.iface 95 (.pointer (some ⟨r, 0, none⟩))) := by simp only [World.cell?, h.blk]; rfl
  have c2 : w.cell? ⟨g, 2, none⟩ = some (.iface 81 (.pointer (some ⟨q, 0, none⟩))) := by simp only [World.cell?, h.blk]; rfl
  have t0 := ta_S' p
  have t1 := ta_U r
  have t2 := ta_A q
  have hm := methP_A q
  have hA := h.a
  go_enter Tryz.func210, Tryz.ntmps210
  go_wp2
  go_loopw [10] (fun i wr => ∃ k : Nat, k ≤ 3 ∧ i = .int .i64 k ∧ wr = w) (fun i _ => 3 - (intOf i).toNat)
  case atStart => exact ⟨0, by omega, rfl, rfl⟩
  case round =>
    obtain ⟨k, hk, rfl, rfl⟩ := hrel
    obtain rfl | rfl | rfl | rfl : k = 0 ∨ k = 1 ∨ k = 2 ∨ k = 3 := by omega
    · go_wp2
      go_roundw
      case rel => exact ⟨1, by omega, by go_num, by first | trivial | rfl⟩
      case measure => simp [intOf]
    · go_wp2
      go_roundw
      case rel => exact ⟨2, by omega, by go_num, by first | trivial | rfl⟩
      case measure => simp [intOf]
    · go_wp2_with (go_at_call 152; (refine (Prepare_A q _ _ _ _ hA).mono ?_); rintro e w2 ⟨rfl, rfl⟩)
      go_roundw
      case rel => exact ⟨3, by omega, by go_num, by first | trivial | rfl⟩
      case measure => simp [intOf]
    · go_wp2
      go_ret
      exact ⟨rfl, Upd.refl _ _⟩
set_option maxRecDepth 100000 in
set_option maxHeartbeats 1000000 in
theorem prepared_T (g p r q : Nat) (Fp Fq : List Nat) (ao : Option Addr) (m c : Nat) (ts : List (List Value)) (bs : List Int) (ends : List Int) (tss : List (List Value)) (w : World) (h : TupCol w g p r q Fp Fq ao m c ts bs ends tss) :
    Calls Tryz.prog 105 #[.iface 102 (.slice (some ⟨g, 0, none⟩) 3 3)] w fun e w' => e = .returned (.bool true) ∧ Upd [] w w' := by
  have hm := methP_T (some ⟨g, 0, none⟩) 3 3
  have hta := ta_T (.slice (some ⟨g, 0, none⟩) 3 3)
  go_enter Tryz.func105, Tryz.ntmps105
  go_wp2_with (go_at_call 210; (refine (Prepare_T g p r q Fp Fq ao m c ts bs ends tss _ h).mono ?_); rintro e w2 ⟨rfl, hu2⟩)
  go_ret
  exact ⟨rfl, hu2⟩
/-- what of the tuple's bytes the first k columns give -/
def tupBytes (ts : List (List Value)) (bs : List Int) (ends : List Int) (tss : List (List Value)) : Nat → List Value
  | 0 => []
  | 1 => encS ts
  | 2 => encS ts ++ bs.flatMap (leV 4)
  | _ => encS ts ++ bs.flatMap (leV 4) ++ (ends.flatMap (leV 8) ++ encS tss)
set_option maxRecDepth 100000 in
set_option maxHeartbeats 2000000 in
theorem ColTuple_EncodeColumn (g p r q : Nat) (Fp Fq : List Nat) (ao : Option Addr) (m c : Nat) (ts : List (List Value)) (bs : List Int) (ends : List Int) (tss : List (List Value)) (B bp : Nat) (w : World) (h : TupCol w g p r q Fp Fq ao m c ts bs ends tss)
    (hB : ∀ x, (x = g ∨ x ∈ Fp ∨ x = r ∨ x ∈ bk ao ∨ x ∈ Fq) → x < B) (hbp : B ≤ bp) (hb : Hold w bp 210 5 1 none 0 0 []) (h1 : Short ts) (h2 : Short tss) (hn : ts.length ≤ 1000) (ht : tot ts ≤ 100000) (hm : m ≤ 1000) (he : ends.length ≤ 1000) (hn2 : tss.length ≤ 1000) (ht2 : tot tss ≤ 100000) :
    Calls Tryz.prog 209 #[.slice (some ⟨g, 0, none⟩) 3 3, .pointer (some ⟨bp, 0, none⟩)] w fun e w' => e = .returned (.tuple #[]) ∧ Grew w w' bp 210 5 1 none (tupBytes ts bs ends tss 3).length (tupBytes ts bs ends tss 3) := by
  have l1 := encS_len ts
  have l2 := encS_len tss
  have hbl : bs.length = m := by have := h.u.own.len; simpa using this
  have l3 : (bs.flatMap (leV 4)).length = m * 4 := by rw [flatMap_len _ 4 (leV_len 4), hbl]
  have l4 : (ends.flatMap (leV 8)).length = ends.length * 8 := flatMap_len _ 8 (leV_len 8) _
  go_enter Tryz.func209, Tryz.ntmps209
  go_wp2
  go_loopw [8] (fun i wr => ∃ (k : Nat) (a' : Option Addr) (c' : Nat), k ≤ 3 ∧ i = .int .i64 k ∧ TupCol wr g p r q Fp Fq ao m c ts bs ends tss ∧ Hold wr bp 210 5 1 a' (tupBytes ts bs ends tss k).length c' (tupBytes ts bs ends tss k) ∧ Upd [bp] w wr ∧ In [] w.heap.size a')
    (fun i _ => 3 - (intOf i).toNat)
  case atStart => exact ⟨0, none, 0, by omega, rfl, h, hb, Upd.refl _ _, In.nil⟩
  case round =>
    obtain ⟨k, a', c', hk, rfl, hT, hH, hU, hI⟩ := hrel
    have hbw := hb.lt
    have hdis : ∀ x, (x = g ∨ x ∈ Fp ∨ x = r ∨ x ∈ bk ao ∨ x ∈ Fq) → x ∉ bp :: bk a' := fun x hx hx' => by
      have h3 := hB x hx
      rcases List.mem_cons.1 hx' with h4 | h4
      · omega
      · rcases hI x h4 with h5 | h5
        · simp at h5
        · omega
    obtain rfl | rfl | rfl | rfl : k = 0 ∨ k = 1 ∨ k = 2 ∨ k = 3 := by omega
    · have c0 : wr.cell? ⟨g, 0, none⟩ = some (.iface 87 (.pointer (some ⟨p, 0, none⟩))) := by simp only [World.cell?, hT.blk]; rfl
      obtain ⟨ab, cb, ap, cp, hA, _, hbF, hqF, _⟩ := hT.s
      have d0 : wr.cell? ⟨p, 0, none⟩ = some (.slice ab (tot ts) cb) := by simp only [World.cell?, hA.blk]; rfl
      have d1 : wr.cell? ⟨p, 0 + 1, none⟩ = some (.slice ap ts.length cp) := by simp only [World.cell?, hA.blk]; rfl
      have hm2 := methP_S p _ _ (loadC_S p _ _ _ d0 d1)
      clear d0 d1
      go_wp2_with (go_at_call 186; (refine (ColStr_EncodeColumn _ _ _ _ ts _ _ _ _ _ _ hA.buf.toView hA.pos.toView hA.buf.cap.1 hH (fun x hx => hdis x (.inr (.inl (hbF x hx)))) (fun x hx => hdis x (.inr (.inl (hqF x hx)))) h1 (by omega) (by simp [tupBytes]) (by omega)).mono ?_); rintro e w3 ⟨rfl, ao3, c3, hH3, hU3, hI3⟩)
      have hT3 : TupCol w3 g p r q Fp Fq ao m c ts bs ends tss := ⟨hU3.at hT.blk (hdis g (.inl rfl)), hT.s.kept hU3 (fun x hx => hdis x (.inr (.inl hx))), hT.u.kept hU3 (hdis r (.inr (.inr (.inl rfl)))) (fun x hx => hdis x (.inr (.inr (.inr (.inl hx))))), hT.a.kept hU3 (fun x hx => hdis x (.inr (.inr (.inr (.inr hx)))))⟩
      have hUx : Upd [bp] w w3 := hU.trans hU3 (fun y hy => by
        rcases List.mem_cons.1 hy with h | h
        · exact .inl (by simp [h])
        · exact (hI y h).elim (fun h => by simp at h) .inr)
      have hIx : In [] w.heap.size ao3 := hI.step hI3 hU.size
      have hHx : Hold w3 bp 210 5 1 ao3 (tupBytes ts bs ends tss 1).length c3 (tupBytes ts bs ends tss 1) := by simpa [tupBytes] using hH3
      clear hH3 hU3 hI3 hT hH hU hI
      go_roundw
      case rel => exact ⟨1, ao3, c3, by omega, by go_num, hT3, hHx, hUx, hIx⟩
      case measure => simp [intOf]
    · have c0 : wr.cell? ⟨g, 1, none⟩ = some (.iface 95 (.pointer (some ⟨r, 0, none⟩))) := by simp only [World.cell?, hT.blk]; rfl
      have hm2 := methP_u32 r _ _ (loadC_u32 r _ _ hT.u.cell)
      have hHl : (tupBytes ts bs ends tss 1).length ≤ 200000 := by simp only [tupBytes]; omega
      go_wp2_with (go_at_call 201; (refine (ColUInt32_EncodeColumn ao m c bs bp a' _ _ _ _ hT.u.own.toView hH (fun x hx => by have := hdis x (.inr (.inr (.inr (.inl hx)))); simpa using this) hT.u.bk_lt (by omega) (by omega)).mono ?_); rintro e w3 ⟨rfl, ao3, c3, hH3, hU3, hI3⟩)
      have hT3 : TupCol w3 g p r q Fp Fq ao m c ts bs ends tss := ⟨hU3.at hT.blk (hdis g (.inl rfl)), hT.s.kept hU3 (fun x hx => hdis x (.inr (.inl hx))), hT.u.kept hU3 (hdis r (.inr (.inr (.inl rfl)))) (fun x hx => hdis x (.inr (.inr (.inr (.inl hx))))), hT.a.kept hU3 (fun x hx => hdis x (.inr (.inr (.inr (.inr hx)))))⟩
      have hUx : Upd [bp] w w3 := hU.trans hU3 (fun y hy => by
        rcases List.mem_cons.1 hy with h | h
        · exact .inl (by simp [h])
        · exact (hI y h).elim (fun h => by simp at h) .inr)
      have hIx : In [] w.heap.size ao3 := hI.step hI3 hU.size
      have hHx : Hold w3 bp 210 5 1 ao3 (tupBytes ts bs ends tss 2).length c3 (tupBytes ts bs ends tss 2) := by
        have e : (tupBytes ts bs ends tss 2).length = (tupBytes ts bs ends tss 1).length + m * 4 := by simp only [tupBytes, List.length_append, l3]
        rw [e]
        exact hH3
      clear hH3 hU3 hI3 hT hH hU hI hHl
      go_roundw
      case rel => exact ⟨2, ao3, c3, by omega, by go_num, hT3, hHx, hUx, hIx⟩
      case measure => simp [intOf]
    · have c0 : wr.cell? ⟨g, 2, none⟩ = some (.iface 81 (.pointer (some ⟨q, 0, none⟩))) := by simp only [World.cell?, hT.blk]; rfl
      have hHl : (tupBytes ts bs ends tss 2).length ≤ 300000 := by simp only [tupBytes, List.length_append]; omega
      obtain ⟨oo, co, pp, Fs, hHo, hCo, hq, hsep, hqF, haF, hsF, _⟩ := hT.a
      have d0 := hHo.cell
      have d1 := hHo.cellN 0 (v := .iface 87 (.pointer (some ⟨pp, 0, none⟩))) rfl
      have hm2 := methQ_A q _ _ (loadC_A q _ _ _ d0 d1)
      clear d0 d1
      go_wp2_with (go_at_call 151; (refine (ColArr_EncodeColumn ends tss oo co pp Fs bp a' _ _ _ _ hHo.own hCo hH (fun x hx => hdis x (.inr (.inr (.inr (.inr (haF x hx)))))) (fun x hx => hdis x (.inr (.inr (.inr (.inr (hsF x hx)))))) h2 (by omega) (by omega) (by omega) he).mono ?_); rintro e w3 ⟨rfl, ao3, c3, hH3, hU3, hI3⟩)
      have hT3 : TupCol w3 g p r q Fp Fq ao m c ts bs ends tss := ⟨hU3.at hT.blk (hdis g (.inl rfl)), hT.s.kept hU3 (fun x hx => hdis x (.inr (.inl hx))), hT.u.kept hU3 (hdis r (.inr (.inr (.inl rfl)))) (fun x hx => hdis x (.inr (.inr (.inr (.inl hx))))), hT.a.kept hU3 (fun x hx => hdis x (.inr (.inr (.inr (.inr hx)))))⟩
      have hUx : Upd [bp] w w3 := hU.trans hU3 (fun y hy => by
        rcases List.mem_cons.1 hy with h | h
        · exact .inl (by simp [h])
        · exact (hI y h).elim (fun h => by simp at h) .inr)
      have hIx : In [] w.heap.size ao3 := hI.step hI3 hU.size
      have hHx : Hold w3 bp 210 5 1 ao3 (tupBytes ts bs ends tss 3).length c3 (tupBytes ts bs ends tss 3) := by
        have e : (tupBytes ts bs ends tss 3).length = (tupBytes ts bs ends tss 2).length + ends.length * 8 + (encS tss).length := by simp only [tupBytes, List.length_append, l3, l4]; omega
        have e' : tupBytes ts bs ends tss 3 = tupBytes ts bs ends tss 2 ++ ends.flatMap (leV 8) ++ encS tss := by simp only [tupBytes, List.append_assoc]
        rw [e, e']
        exact hH3
      clear hH3 hU3 hI3 hT hH hU hI hHl
      go_roundw
      case rel => exact ⟨3, ao3, c3, by omega, by go_num, hT3, hHx, hUx, hIx⟩
      case measure => simp [intOf]
    · go_wp2
      go_end0
      exact ⟨rfl, a', c', hH, by simpa using hU, hI.mono (Nat.le_refl _) (fun _ h => by simp at h)⟩
set_option maxRecDepth 100000 in
set_option maxHeartbeats 1000000 in
theorem enc_T (g p r q : Nat) (Fp Fq : List Nat) (ao : Option Addr) (m c : Nat) (ts : List (List Value)) (bs : List Int) (ends : List Int) (tss : List (List Value)) (w : World) (h : TupCol w g p r q Fp Fq ao m c ts bs ends tss)
    (h1 : Short ts) (h2 : Short tss) (hn : ts.length ≤ 1000) (ht : tot ts ≤ 100000) (hm : m ≤ 1000) (he : ends.length ≤ 1000) (hn2 : tss.length ≤ 1000) (ht2 : tot tss ≤ 100000) :
    Calls Tryz.prog 30 #[.func (Fn.method "EncodeColumn") #[.iface 102 (.slice (some ⟨g, 0, none⟩) 3 3)] #[]] w (Made w (tupBytes ts bs ends tss 3).length (tupBytes ts bs ends tss 3)) := by
  go_enter Tryz.func30, Tryz.ntmps30
  have hB := newBuf w
  have u1 := (Upd.refl [] w).alloc (Obj.cells #[.slice none 0 0] 210)
  have hT := h.kept u1 w.heap.size (Nat.le_refl _) (by simp)
  have hlt : ∀ x, (x = g ∨ x ∈ Fp ∨ x = r ∨ x ∈ bk ao ∨ x ∈ Fq) → x < w.heap.size := by
    rintro x (rfl | hx | rfl | hx | hx)
    · exact lt_of_block h.blk
    · exact h.s.lt x hx
    · exact h.u.lt
    · exact h.u.bk_lt x hx
    · exact h.a.lt x hx
  have hme := methE_T (some ⟨g, 0, none⟩) 3 3
  obtain ⟨N, hN⟩ : ∃ N, N = (tupBytes ts bs ends tss 3).length := ⟨_, rfl⟩
  obtain ⟨BS, hBS⟩ : ∃ BS, BS = tupBytes ts bs ends tss 3 := ⟨_, rfl⟩
  have hE := ColTuple_EncodeColumn g p r q Fp Fq ao m c ts bs ends tss w.heap.size w.heap.size _ hT hlt (Nat.le_refl _) hB h1 h2 hn ht hm he hn2 ht2
  rw [← hN, ← hBS] at hE ⊢
  clear hN hBS
  go_wp2_with (go_at_call 209; (refine hE.mono ?_); rintro e w2 ⟨rfl, ao2, c2, hH2, hU2, hI2⟩; have hc2 := hH2.cell)
  go_ret
  have hH2' : Hold w2 w.heap.size 210 5 1 ao2 (0 + N) c2 ([] ++ BS) := by simpa using hH2
  exact Made.of (by simp) hH2' hU2 hI2
theorem encodes_T (g p r q : Nat) (Fp Fq : List Nat) (ao : Option Addr) (m c : Nat) (ts : List (List Value)) (bs : List Int) (ends : List Int) (tss : List (List Value)) (w : World) (h : TupCol w g p r q Fp Fq ao m c ts bs ends tss)
    (h1 : Short ts) (h2 : Short tss) (hn : ts.length ≤ 1000) (ht : tot ts ≤ 100000) (hm : m ≤ 1000) (he : ends.length ≤ 1000) (hn2 : tss.length ≤ 1000) (ht2 : tot tss ≤ 100000) :
    Calls Tryz.prog 48 #[.iface 102 (.slice (some ⟨g, 0, none⟩) 3 3)] w fun e w' => (∃ ao c', e = .returned (.tuple #[.slice ao (tupBytes ts bs ends tss 3).length c', .bool true]) ∧ Row w' 5 1 ao (tupBytes ts bs ends tss 3).length c' (tupBytes ts bs ends tss 3)) ∧ Upd [] w w' :=
  encodes_of _ _ (fun w => TupCol w g p r q Fp Fq ao m c ts bs ends tss) (fun w _ h hu => h.kept hu w.heap.size (Nat.le_refl _) (by simp)) _ _ (fun w h => prepared_T g p r q Fp Fq ao m c ts bs ends tss w h) (fun w h => enc_T g p r q Fp Fq ao m c ts bs ends tss w h h1 h2 hn ht hm he hn2 ht2) w h
end Go.Proofs.YtpehfhdacgjmpaaGreat
