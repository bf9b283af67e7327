/- Maps of strings: EncodeColumn, Prepare, encoded; impl.ARMap. -/
import Derived.Test.YtpehfhdacgjmpaaGreatMap
namespace Go.Proofs.YtpehfhdacgjmpaaGreat
open Go Go.RowKit
set_option maxRecDepth 100000 in
set_option maxHeartbeats 400000 in
theorem Rows_M (ao : Option Addr) (n c : Nat) (u v : Value) (w : World) : Calls Tryz.prog 222 #[.agg #[.slice ao n c, u, v]] w fun e w' => e = .returned (.int .i64 n) ∧ Upd [] w w' := by
  go_enter Tryz.func222, Tryz.ntmps222
  go_wp2
  go_ret
  exact ⟨rfl, (Upd.refl _ _).alloc _⟩
set_option maxRecDepth 100000 in
set_option maxHeartbeats 2000000 in
theorem ColMap_EncodeColumn (ends : List Int) (ks vs : List (List Value)) (oo : Option Addr) (co p r : Nat) (Fp Fr : List Nat) (bp : Nat) (ao : Option Addr) (m cc : Nat) (bs : List Value) (w : World)
    (ho : Row w 26 1 oo ends.length co (ends.map (Value.int .u64))) (hK : StrCol w p Fp ks) (hV : StrCol w r Fr vs) (hb : Hold w bp 210 5 1 ao m cc bs) (hno : ∀ x, x ∈ bk oo → x ∉ bp :: bk ao) (hnp : ∀ x, x ∈ Fp → x ∉ bp :: bk ao) (hnr : ∀ x, x ∈ Fr → x ∉ bp :: bk ao)
    (h1 : Short ks) (h2 : Short vs) (hn : ks.length ≤ 10000) (hn2 : vs.length ≤ 10000) (hm : m ≤ 1000000) (ht : tot ks ≤ 1000000) (ht2 : tot vs ≤ 1000000) (he : ends.length ≤ 1000) (h0 : ends = [] → ks = [] ∧ vs = []) :
    Calls Tryz.prog 219 #[.agg #[.slice oo ends.length co, .iface 87 (.pointer (some ⟨p, 0, none⟩)), .iface 87 (.pointer (some ⟨r, 0, none⟩))], .pointer (some ⟨bp, 0, none⟩)] w fun e w' => e = .returned (.tuple #[]) ∧ Grew w w' bp 210 5 1 ao (m + ends.length * 8 + (encS ks).length + (encS vs).length) (bs ++ ends.flatMap (leV 8) ++ encS ks ++ encS vs) := by
  obtain ⟨k1, u1, s1⟩ := alloc_facts w (Obj.cells #[.slice oo ends.length co, .iface 87 (.pointer (some ⟨p, 0, none⟩)), .iface 87 (.pointer (some ⟨r, 0, none⟩))] 329)
  have hb1 := hb.kept u1 (by simp) (by simp)
  have ho1 := ho.upd u1 (by simp)
  have hK1 := hK.kept u1 (by simp)
  have hV1 := hV.kept u1 (by simp)
  have hap : Apart oo bp ao := fun x hx => by
    have := hno x hx; simp at this; exact this
  by_cases hz : ends.length = 0
  · obtain rfl : ends = [] := List.eq_nil_of_length_eq_zero hz
    obtain ⟨rfl, rfl⟩ := h0 rfl
    go_enter Tryz.func219, Tryz.ntmps219
    go_wp2_with (go_at_call 222; (refine (Rows_M _ _ _ _ _ _).mono ?_); rintro e w2 ⟨rfl, hu2⟩)
    refine bodyPost_ret (results_none rfl _ _ _) rfl ?_
    exact ⟨rfl, ao, cc, by simpa [encS] using hb1.kept hu2 (by simp) (by simp), (u1.mono (by simp)).trans hu2 (by simp), In.self (fun _ h => h)⟩
  · have hz' : ((ends.length : Int) == 0) = false := beq_eq_false_iff_ne.2 (by omega)
    go_enter Tryz.func219, Tryz.ntmps219
    go_wp2_with (go_at_call 222; apply stopHere)
    show Calls _ _ _ _ _
    generalize w.alloc (Obj.cells #[.slice oo ends.length co, .iface 87 (.pointer (some ⟨p, 0, none⟩)), .iface 87 (.pointer (some ⟨r, 0, none⟩))] 329) = W at *
    refine (Rows_M _ _ _ _ _ W).mono ?_
    rintro e W2 ⟨rfl, hv2⟩
    dsimp only
    have k2 := hv2.at k1 (by simp)
    have q0 : W2.cell? ⟨w.heap.size, 0, none⟩ = some (.slice oo ends.length co) := by simp only [World.cell?, k2]; rfl
    have hb2 := hb1.kept hv2 (by simp) (by simp)
    have ho2 := ho1.upd hv2 (by simp)
    have hsz2 := hv2.size
    go_wp2_with (go_at_call 160; apply stopHere)
    show Calls _ _ _ _ _
    refine (ColUInt64_EncodeColumn oo ends.length co ends bp ao m cc bs _ ho2.toView hb2 hap ho2.lt (by omega) (by omega)).mono ?_
    rintro e w2 ⟨rfl, ao2, c2, hH2, hU2, hI2⟩
    dsimp only
    have hbl := hb.lt
    have hbo := hb.own.lt
    have hnw : w.heap.size ∉ bp :: bk ao := fun hx => by
      rcases List.mem_cons.1 hx with h | h
      · omega
      · have := hbo _ h; omega
    have kk := hU2.at k2 hnw
    have q1 : w2.cell? ⟨w.heap.size, 1, none⟩ = some (.iface 87 (.pointer (some ⟨p, 0, none⟩))) := by simp only [World.cell?, kk]; rfl
    have hK2 := (hK1.kept hv2 (by simp)).kept hU2 hnp
    have hV2 := (hV1.kept hv2 (by simp)).kept hU2 hnr
    have hKl := hK.lt
    have hVl := hV.lt
    obtain ⟨ab, cb, ap, cp, hA, _, hbF, hqF, _⟩ := hK2
    have c0 : w2.cell? ⟨p, 0, none⟩ = some (.slice ab (tot ks) cb) := by simp only [World.cell?, hA.blk]; rfl
    have c1 : w2.cell? ⟨p, 0 + 1, none⟩ = some (.slice ap ks.length cp) := by simp only [World.cell?, hA.blk]; rfl
    have hm2 := methP_S p _ _ (loadC_S p _ _ _ c0 c1)
    clear c0 c1
    have hd2 : ∀ x, x < w.heap.size → x ∉ bp :: bk ao → x ∉ bp :: bk ao2 := fun x hxl h3 hx' => by
      rcases List.mem_cons.1 hx' with h | h
      · exact h3 (by rw [h]; exact List.mem_cons_self)
      · rcases hI2 x h with h | h
        · exact h3 (List.mem_cons_of_mem _ h)
        · omega
    have hlenB : (bs ++ ends.flatMap (leV 8)).length = m + ends.length * 8 := by have := hH2.own.len; omega
    go_wp2_with (go_at_call 186; apply stopHere)
    show Calls _ _ _ _ _
    refine (ColStr_EncodeColumn _ _ _ _ ks _ _ _ _ _ _ hA.buf.toView hA.pos.toView hA.buf.cap.1 hH2 (fun x hx => hd2 x (hKl x (hbF x hx)) (hnp x (hbF x hx))) (fun x hx => hd2 x (hKl x (hqF x hx)) (hnp x (hqF x hx))) h1 hn (by omega) (by omega)).mono ?_
    rintro e w3 ⟨rfl, ao3, c3, hH3, hU3, hI3⟩
    dsimp only
    have hnw2 : w.heap.size ∉ bp :: bk ao2 := fun hx => by
      rcases List.mem_cons.1 hx with h | h
      · omega
      · rcases hI2 _ h with h | h
        · have := hbo _ h; omega
        · omega
    have k3 := hU3.at kk hnw2
    have q2 : w3.cell? ⟨w.heap.size, 2, none⟩ = some (.iface 87 (.pointer (some ⟨r, 0, none⟩))) := by simp only [World.cell?, k3]; rfl
    have hV3 := hV2.kept hU3 (fun x hx => hd2 x (hVl x hx) (hnr x hx))
    obtain ⟨ab', cb', ap', cp', hA', _, hbF', hqF', _⟩ := hV3
    have c0 : w3.cell? ⟨r, 0, none⟩ = some (.slice ab' (tot vs) cb') := by simp only [World.cell?, hA'.blk]; rfl
    have c1 : w3.cell? ⟨r, 0 + 1, none⟩ = some (.slice ap' vs.length cp') := by simp only [World.cell?, hA'.blk]; rfl
    have hm3 := methP_S r _ _ (loadC_S r _ _ _ c0 c1)
    clear c0 c1 hm2 q1 q0
    have hd3 : ∀ x, x < w.heap.size → x ∉ bp :: bk ao → x ∉ bp :: bk ao3 := fun x hxl h3 hx' => by
      have h4 := hd2 x hxl h3
      rcases List.mem_cons.1 hx' with h | h
      · exact h4 (by rw [h]; exact List.mem_cons_self)
      · rcases hI3 x h with h | h
        · exact h4 (List.mem_cons_of_mem _ h)
        · have := hU2.size; omega
    have le1 := encS_len ks
    have hlenC : (bs ++ ends.flatMap (leV 8) ++ encS ks).length = m + ends.length * 8 + (encS ks).length := by have := hH3.own.len; omega
    go_wp2_with (go_at_call 186; (refine (ColStr_EncodeColumn _ _ _ _ vs _ _ _ _ _ _ hA'.buf.toView hA'.pos.toView hA'.buf.cap.1 hH3 (fun x hx => hd3 x (hVl x (hbF' x hx)) (hnr x (hbF' x hx))) (fun x hx => hd3 x (hVl x (hqF' x hx)) (hnr x (hqF' x hx))) h2 hn2 (by omega) (by omega)).mono ?_); rintro e w4 ⟨rfl, ao4, c4, hH4, hU4, hI4⟩)
    go_end0
    have up : ∀ {a : Option Addr} {B : Nat}, In (bk ao) B a → w.heap.size ≤ B → ∀ y, y ∈ bp :: bk a → y ∈ bp :: bk ao ∨ w.heap.size ≤ y := fun h hB y hy => by
      rcases List.mem_cons.1 hy with h' | h'
      · exact .inl (by rw [h']; exact List.mem_cons_self)
      · exact (h y h').imp (List.mem_cons_of_mem _) (fun h => by omega)
    have uu1 : Upd (bp :: bk ao) w w2 := ((u1.mono (by simp)).trans hv2 (by simp)).trans hU2 (fun _ h => .inl h)
    have i2 : In (bk ao) W.heap.size ao2 := hI2.le hsz2
    have uu2 : Upd (bp :: bk ao) w w3 := uu1.trans hU3 (up i2 u1.size)
    have i3 : In (bk ao) w.heap.size ao3 := (i2.le u1.size).step hI3 uu1.size
    refine ⟨rfl, ao4, c4, hH4, uu2.trans hU4 (up i3 (Nat.le_refl _)), i3.step hI4 uu2.size⟩

theorem methQ2_M (k q : Nat) (w : World) : (method (k + 1) 106 (.pointer (some ⟨q, 0, none⟩)) "EncodeColumn").run Tryz.prog w = (do let v ← receiverAt 106 (.val (.pointer (some ⟨q, 0, none⟩))) false (some "EncodeColumn"); pure (219, v) : Sem (FuncId × Value)).run Tryz.prog w := by kernel_rfl
theorem methQ3_M (q : Nat) (w : World) : (receiverAt 106 (.val (.pointer (some ⟨q, 0, none⟩))) false (some "EncodeColumn")).run Tryz.prog w = (loadVar 329 ⟨q, 0, none⟩).run Tryz.prog w := by kernel_rfl
theorem methQ_M (q : Nat) (w : World) (v : Value) (h : (loadVar 329 ⟨q, 0, none⟩).run Tryz.prog w = .ok v w) : (method 706 106 (.pointer (some ⟨q, 0, none⟩)) "EncodeColumn").run Tryz.prog w = .ok (219, v) w := by
  rw [show 706 = (706 - 1) + 1 from rfl, methQ2_M]
  simp only [Sem.run_bind, methQ3_M, h, Result.andThen_ok, Sem.run_pure]
theorem methP2_M (k q : Nat) (w : World) : (method (k + 1) 106 (.pointer (some ⟨q, 0, none⟩)) "Prepare").run Tryz.prog w = (do let v ← receiverAt 106 (.val (.pointer (some ⟨q, 0, none⟩))) false (some "Prepare"); pure (220, v) : Sem (FuncId × Value)).run Tryz.prog w := by kernel_rfl
theorem methP3_M (q : Nat) (w : World) : (receiverAt 106 (.val (.pointer (some ⟨q, 0, none⟩))) false (some "Prepare")).run Tryz.prog w = (loadVar 329 ⟨q, 0, none⟩).run Tryz.prog w := by kernel_rfl
theorem methP_M (q : Nat) (w : World) (v : Value) (h : (loadVar 329 ⟨q, 0, none⟩).run Tryz.prog w = .ok v w) : (method 706 106 (.pointer (some ⟨q, 0, none⟩)) "Prepare").run Tryz.prog w = .ok (220, v) w := by
  rw [show 706 = (706 - 1) + 1 from rfl, methP2_M]
  simp only [Sem.run_bind, methP3_M, h, Result.andThen_ok, Sem.run_pure]
theorem loadC_M (p : Nat) (w : World) (u v x : Value) (h : w.cell? ⟨p, 0, none⟩ = some u) (h' : w.cell? ⟨p, 0 + 1, none⟩ = some v) (h'' : w.cell? ⟨p, 1 + 1, none⟩ = some x) : (loadVar 329 ⟨p, 0, none⟩).run Tryz.prog w = .ok (.agg #[u, v, x]) w := by
  go_simp
  done
theorem ta_M (q : Nat) (w : World) : (Instr.typeAssert (.iface 106 (.pointer (some ⟨q, 0, none⟩))) 325 439 true).run Tryz.prog w = .ok (.tuple #[.iface 106 (.pointer (some ⟨q, 0, none⟩)), .bool true]) w := by kernel_rfl
set_option maxRecDepth 100000 in
set_option maxHeartbeats 1000000 in
theorem enc_M (q : Nat) (F : List Nat) (ends : List Int) (ks vs : List (List Value)) (w : World) (h : MapCol w q F ends ks vs) (h1 : Short ks) (h2 : Short vs) (hn : ks.length ≤ 10000) (hn2 : vs.length ≤ 10000) (ht : tot ks ≤ 1000000) (ht2 : tot vs ≤ 1000000) (he : ends.length ≤ 1000) (h0 : ends = [] → ks = [] ∧ vs = []) :
    Calls Tryz.prog 30 #[.func (Fn.method "EncodeColumn") #[.iface 106 (.pointer (some ⟨q, 0, none⟩))] #[]] w (Made w (ends.length * 8 + (encS ks).length + (encS vs).length) (ends.flatMap (leV 8) ++ encS ks ++ encS vs)) := by
  go_enter Tryz.func30, Tryz.ntmps30
  have hB := newBuf w
  have u1 := (Upd.refl [] w).alloc (Obj.cells #[.slice none 0 0] 210)
  have hltw := h.lt
  obtain ⟨oo, co, p, r, Fp, Fr, hA, hqF, haF, hpF, hrF, _⟩ := h.kept u1 (by simp)
  have c0 := hA.o.cell
  have c1 := hA.o.cellN 0 (v := .iface 87 (.pointer (some ⟨p, 0, none⟩))) rfl
  have c2 := hA.o.cellN 1 (v := .iface 87 (.pointer (some ⟨r, 0, none⟩))) rfl
  have hm := methQ_M q _ _ (loadC_M q _ _ _ _ c0 c1 c2)
  have ha : ∀ x, x ∈ F → x ∉ w.heap.size :: bk none := fun x hx hx' => by
    have := hltw x hx; simp at hx'; omega
  clear c0 c1 c2
  go_wp2_with (go_at_call 219; (refine (ColMap_EncodeColumn ends ks vs oo co p r Fp Fr _ _ _ _ _ _ hA.o.own hA.k hA.v hB (fun x hx => ha x (haF x hx)) (fun x hx => ha x (hpF x hx)) (fun x hx => ha x (hrF x hx)) h1 h2 hn hn2 (by omega) ht ht2 he h0).mono ?_); rintro e w2 ⟨rfl, ao2, c2, hH2, hU2, hI2⟩; have hc2 := hH2.cell)
  go_ret
  have hH2' : Hold w2 w.heap.size 210 5 1 ao2 (0 + (ends.length * 8 + (encS ks).length + (encS vs).length)) c2 ([] ++ (ends.flatMap (leV 8) ++ encS ks ++ encS vs)) := by
    rw [Nat.zero_add, List.nil_append]
    rw [Nat.zero_add, List.nil_append] at hH2
    exact hH2
  exact Made.of (by simp) hH2' hU2 hI2
set_option maxRecDepth 100000 in
set_option maxHeartbeats 1000000 in
theorem Prepare_M (u : Value) (p r : Nat) (w : World) : Calls Tryz.prog 220 #[.agg #[u, .iface 87 (.pointer (some ⟨p, 0, none⟩)), .iface 87 (.pointer (some ⟨r, 0, none⟩))]] w fun e w' => e = .returned .nilIface ∧ Upd [] w w' := by
  have t1 := ta_S p
  have t2 := ta_S r
  go_enter Tryz.func220, Tryz.ntmps220
  go_wp2
  go_ret
  exact ⟨rfl, (Upd.refl _ _).alloc _⟩
set_option maxRecDepth 100000 in
set_option maxHeartbeats 1000000 in
theorem prepared_M (q : Nat) (F : List Nat) (ends : List Int) (ks vs : List (List Value)) (w : World) (h : MapCol w q F ends ks vs) : Calls Tryz.prog 105 #[.iface 106 (.pointer (some ⟨q, 0, none⟩))] w fun e w' => e = .returned (.bool true) ∧ Upd [] w w' := by
  obtain ⟨oo, co, p, r, Fp, Fr, hA, hqF, haF, hpF, hrF, _⟩ := h
  have c0 := hA.o.cell
  have c1 := hA.o.cellN 0 (v := .iface 87 (.pointer (some ⟨p, 0, none⟩))) rfl
  have c2 := hA.o.cellN 1 (v := .iface 87 (.pointer (some ⟨r, 0, none⟩))) rfl
  have hm := methP_M q _ _ (loadC_M q _ _ _ _ c0 c1 c2)
  have hta := ta_M q
  clear c0 c1 c2
  go_enter Tryz.func105, Tryz.ntmps105
  go_wp2_with (go_at_call 220; (refine (Prepare_M _ p r _).mono ?_); rintro e w2 ⟨rfl, hu2⟩)
  go_ret
  exact ⟨rfl, hu2⟩
theorem encodes_M (q : Nat) (F : List Nat) (ends : List Int) (ks vs : List (List Value)) (w : World) (h : MapCol w q F ends ks vs) (h1 : Short ks) (h2 : Short vs) (hn : ks.length ≤ 10000) (hn2 : vs.length ≤ 10000) (ht : tot ks ≤ 1000000) (ht2 : tot vs ≤ 1000000) (he : ends.length ≤ 1000) (h0 : ends = [] → ks = [] ∧ vs = []) :
    Calls Tryz.prog 48 #[.iface 106 (.pointer (some ⟨q, 0, none⟩))] w fun e w' => (∃ ao c', e = .returned (.tuple #[.slice ao (ends.length * 8 + (encS ks).length + (encS vs).length) c', .bool true]) ∧ Row w' 5 1 ao (ends.length * 8 + (encS ks).length + (encS vs).length) c' (ends.flatMap (leV 8) ++ encS ks ++ encS vs)) ∧ Upd [] w w' :=
  encodes_of _ _ (fun w => MapCol w q F ends ks vs) (fun _ _ h hu => h.kept hu (by simp)) _ _ (fun w h => prepared_M q F ends ks vs w h) (fun w h => enc_M q F ends ks vs w h h1 h2 hn hn2 ht ht2 he h0) w h

/-! ### turned, maps, ARMap -/
theorem Tryz.info111 : (Tryz.prog.info? 111).map (fun i => (i.zero, i.size, i.bytes)) = some (some (.agg #[.string ⟨#[]⟩, .string ⟨#[]⟩]), 2, 32) := by kernel_rfl
set_option maxRecDepth 100000 in
set_option maxHeartbeats 400000 in
theorem toKV (k s : ByteArray) (w : World) : Calls Tryz.prog 55 #[.agg #[.string k, .string s]] w fun e w' => e = .returned (.agg #[.string k, .string s]) ∧ Upd [] w w' := by
  obtain ⟨k1, u1, s1⟩ := alloc_facts w (Obj.cells #[.string k, .string s] 60)
  obtain ⟨k2, u2, s2⟩ := alloc_facts (w.alloc (Obj.cells #[.string k, .string s] 60)) (Obj.cells #[.string k, .string s] 111)
  rw [s1] at k2
  go_enter Tryz.func55, Tryz.ntmps55
  go_wp2
  refine bodyPost_ret (v := .agg #[.string k, .string s]) (results_cell1 Tryz.results55 (b := w.heap.size + 1) rfl (run_loadVar_mid _ (w.heap.size + 1) 0 111 [.string k, .string s] _ (rangeAt_blk k2) Tryz.underlying111 rfl (by kernel_rfl))) rfl ⟨rfl, u1.trans u2 (by simp)⟩
set_option maxRecDepth 100000 in
set_option maxHeartbeats 1000000 in
theorem turned_M (ar : Option Addr) (n c : Nat) (ms : List (ByteArray × ByteArray)) (w : World) (hr : View w 2 ar n (ms.flatMap cells_M)) (hn : n ≤ 1000) :
    Calls Tryz.prog 54 #[.slice ar n c, .func (Fn.func 55) #[] #[]] w fun e w' => (∃ ao c', e = .returned (.slice ao n c') ∧ Row w' 111 2 ao n c' (ms.flatMap cells_M) ∧ In [] w.heap.size ao) ∧ Upd [] w w' := by
  have hml : ms.length = n := by have := hr.len; rw [flatMap_len _ 2 cells_M_len] at this; omega
  go_enter Tryz.func54, Tryz.ntmps54
  go_wp2
  go_loopw [5, 10] (fun s i wr => ∃ (k : Nat) (ao : Option Addr) (c' : Nat), k ≤ n ∧ i = .int .i64 k ∧ s = .slice ao k c' ∧ Row wr 111 2 ao k c' ((ms.take k).flatMap cells_M) ∧ Upd [] w wr ∧ In [] w.heap.size ao)
    (fun _ i _ => n - (intOf i).toNat)
  case atStart => exact ⟨0, none, 0, Nat.zero_le _, rfl, rfl, Row.nil, Upd.refl _ _, In.nil⟩
  case round =>
    obtain ⟨k, ao, c', hk, rfl, rfl, hR, hU, hI⟩ := hrel
    by_cases hlt : k < n
    · have hk0 : ((k : Int) < n) := by omega
      obtain ⟨b, o, rfl, hrr, hbb⟩ := hr.at_ (by omega)
      obtain ⟨m, hm⟩ : ∃ m, m = ms[k]'(by omega) := ⟨_, rfl⟩
      obtain ⟨d0, d1⟩ := two_M hrr hbb hU (by simp) k hlt hml hm
      have hfs := flatMap_take_succ cells_M ms k (by omega)
      rw [← hm] at hfs
      have HF := Lib.hid hfs
      clear hm hfs
      obtain ⟨mb, mt⟩ := m
      simp only at d0 d1
      go_wp2_with (first
        | (go_at_call 55; (refine (toKV mb mt _).mono ?_); rintro e w1 ⟨rfl, hu1⟩)
        | (at_builtin; refine wpList_app1 _ rfl (.tmp 14) (.tmp 18) 109 rfl 111 _ 2 32 Tryz.underlying109 Tryz.info111 rfl (by decide) ((Row.upd hR ((Upd.refl [] wr).alloc _) (by simp)).upd hu1 (by simp)) rfl [.string mb, .string mt] rfl rfl rfl (by simp [Value.oneCell']) (by decide) (by omega) ?_; intro ao1 c1 w2 hown1 hupd1 hin1))
      have hUa : Upd [] w w1 := (hU.alloc _).trans hu1 (by simp)
      have hUx : Upd [] w w2 := hUa.trans hupd1 (fun y hy => (hI y hy).elim (fun h => by simp at h) .inr)
      have hIx : In [] w.heap.size ao1 := hI.step hin1 hUa.size
      have hRx : Row w2 111 2 ao1 (k + 1) c1 ((ms.take (k + 1)).flatMap cells_M) := by
        rw [HF.out]
        exact hown1
      clear hown1 hupd1 hin1 hR hUa hu1 hU hI
      go_roundw
      case rel => exact ⟨k + 1, ao1, c1, by omega, by go_num, rfl, hRx, hUx, hIx⟩
      case measure => simp [intOf]; omega
    · have hk0 : n ≤ k := by omega
      obtain rfl : k = n := by omega
      rw [List.take_of_length_le (by omega)] at hR
      go_wp2
      go_ret
      exact ⟨⟨ao, c', rfl, hR, hI⟩, hU⟩
end Go.Proofs.YtpehfhdacgjmpaaGreat
