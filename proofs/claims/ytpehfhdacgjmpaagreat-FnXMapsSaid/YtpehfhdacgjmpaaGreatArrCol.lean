/- Arrays of strings as a column. -/
import Derived.Test.YtpehfhdacgjmpaaGreatStrTexts
namespace Go.Proofs.YtpehfhdacgjmpaaGreat
open Go Go.RowKit
theorem methAA_S (p : Nat) (w : World) : (method 706 87 (.pointer (some ⟨p, 0, none⟩)) "AppendArr").run Tryz.prog w = .ok (45, .pointer (some ⟨p, 0, none⟩)) w := by kernel_rfl
theorem methR2_S (k p : Nat) (w : World) : (method (k + 1) 87 (.pointer (some ⟨p, 0, none⟩)) "Rows").run Tryz.prog w = (do let v ← receiverAt 87 (.val (.pointer (some ⟨p, 0, none⟩))) false (some "Rows"); pure (188, v) : Sem (FuncId × Value)).run Tryz.prog w := by kernel_rfl
theorem methR3_S (p : Nat) (w : World) : (receiverAt 87 (.val (.pointer (some ⟨p, 0, none⟩))) false (some "Rows")).run Tryz.prog w = (loadVar 90 ⟨p, 0, none⟩).run Tryz.prog w := by kernel_rfl
theorem methR_S (p : Nat) (w : World) (v : Value) (h : (loadVar 90 ⟨p, 0, none⟩).run Tryz.prog w = .ok v w) : (method 706 87 (.pointer (some ⟨p, 0, none⟩)) "Rows").run Tryz.prog w = .ok (188, v) w := by
  rw [show 706 = (706 - 1) + 1 from rfl, methR2_S]
  simp only [Sem.run_bind, methR3_S, h, Result.andThen_ok, Sem.run_pure]
set_option maxRecDepth 100000 in
set_option maxHeartbeats 400000 in
theorem Rows_S (ab ap : Option Addr) (nb cb n cp : Nat) (w : World) : Calls Tryz.prog 188 #[.agg #[.slice ab nb cb, .slice ap n cp]] w fun e w' => e = .returned (.int .i64 n) ∧ Upd [] w w' := by
  go_enter Tryz.func188, Tryz.ntmps188
  go_wp2
  go_ret
  exact ⟨rfl, (Upd.refl _ _).alloc _⟩
theorem StrCol.load {w : World} {p : Nat} {F : List Nat} {ts : List (List Value)} (h : StrCol w p F ts) : ∃ ab nb cb ap cp, (loadVar 90 ⟨p, 0, none⟩).run Tryz.prog w = .ok (.agg #[.slice ab nb cb, .slice ap ts.length cp]) w := by
  obtain ⟨ab, cb, ap, cp, hA, _⟩ := h
  exact ⟨ab, tot ts, cb, ap, cp, loadC_S p w _ _ (by simp only [World.cell?, hA.blk]; rfl) (by simp only [World.cell?, hA.blk]; rfl)⟩
/-- the variable q holds a column of arrays of strings: where each ends, and the texts -/
def ArrCol (w : World) (q : Nat) (F : List Nat) (ends : List Int) (ts : List (List Value)) : Prop :=
  ∃ ao c p Fs, HoldT w q 322 26 [.iface 87 (.pointer (some ⟨p, 0, none⟩))] 1 ao ends.length c (ends.map (Value.int .u64)) ∧ StrCol w p Fs ts ∧
    q ∉ Fs ∧ (∀ x, x ∈ bk ao → x ∉ Fs) ∧ q ∈ F ∧ (∀ x, x ∈ bk ao → x ∈ F) ∧ (∀ x, x ∈ Fs → x ∈ F) ∧ ∀ x, x ∈ F → x < w.heap.size
set_option maxRecDepth 100000 in
set_option maxHeartbeats 1000000 in
theorem ColArr_Append (q : Nat) (F : List Nat) (ends : List Int) (ts : List (List Value)) (av : Option Addr) (n c : Nat) (ss : List ByteArray) (w : World) (h : ArrCol w q F ends ts) (hv : View w 1 av n (ss.map Value.string)) (hav : 0 < n → ∀ x, x ∈ bk av → x ∉ F)
    (hn : n ≤ 100) (hs : ∀ s ∈ ss, s.size ≤ 127) (hts : ts.length ≤ 10000) (htt : tot ts ≤ 1000000) (he : ends.length ≤ 1000) :
    Calls Tryz.prog 149 #[.pointer (some ⟨q, 0, none⟩), .slice av n c] w fun e w' => e = .returned (.tuple #[]) ∧ ∃ F', ArrCol w' q F' (ends ++ [((ts.length + n : Nat) : Int)]) (ts ++ ss.map byteCells) ∧ Upd F w w' ∧ Grows w.heap.size F F' := by
  obtain ⟨ao, co, p, Fs, hH, hC, hq, hsep, hqF, haF, hsF, hlt⟩ := h
  have hsl : ss.length = n := by have := hv.len; simpa using this
  have c1 := hH.cellN 0 (v := .iface 87 (.pointer (some ⟨p, 0, none⟩))) rfl
  have hmA := methAA_S p
  go_enter Tryz.func149, Tryz.ntmps149
  go_wp2_with (go_at_call 45; go_loud (refine (ColStr_AppendArr p Fs ts av n c ss w hC hv (fun h0 x hx hx' => hav h0 x hx (hsF x hx')) hn hs hts htt).mono ?_); rintro e w1 ⟨rfl, Fs1, hC1, hU1, hG1⟩)
  have hH1 := hH.kept hU1 hq hsep
  have q0 := hH1.cell
  have q1 := hH1.cellN 0 (v := .iface 87 (.pointer (some ⟨p, 0, none⟩))) rfl
  have hd := (Upd.refl [] w1).drew
  have hCd := hC1.kept hd (by simp)
  obtain ⟨ab, nb, cb, ap, cp, hld⟩ := hCd.load
  have hmR := methR_S p _ _ hld
  refine wp_region_split (S := Upd [] w1) [(false, 0), (true, 1), (true, 2), (true, 3), (true, 4), (true, 5), (true, 6), (true, 7), (true, 8)] [9, 10, 11] [12, 13, 14, 15] (by kernel_rfl) (by kernel_rfl) (fun _ _ d _ _ h => by cases d <;> exact h) ((Upd.refl _ _).drew) ?_
  simp only [readsAt, opersAt, Option.map_some, List.filterMap_cons, List.filterMap_nil, List.getElem?_toArray, List.getElem?_cons_succ, List.getElem?_cons_zero]
  refine ⟨_, Or.inl ⟨by rfl, fun w' hS => by first | (go_simp; done) | (go_simp; with_reducible rfl)⟩, ?_⟩
  simp only [Act.put, List.setIfInBounds_toArray, List.set_cons_zero, List.set_cons_succ]
  refine ⟨_, Or.inl ⟨by rfl, fun w' hS => by first | (go_simp; done) | (go_simp; with_reducible rfl)⟩, ?_⟩
  simp only [Act.put, List.setIfInBounds_toArray, List.set_cons_zero, List.set_cons_succ]
  refine ⟨_, Or.inl ⟨by rfl, fun w' hS => by first | (go_simp; done) | (go_simp; with_reducible rfl)⟩, ?_⟩
  simp only [Act.put, List.setIfInBounds_toArray, List.set_cons_zero, List.set_cons_succ]
  refine ⟨_, Or.inl ⟨by rfl, fun w' hS => by first | (go_simp; done) | (go_simp; with_reducible rfl)⟩, ?_⟩
  simp only [Act.put, List.setIfInBounds_toArray, List.set_cons_zero, List.set_cons_succ]
  refine ⟨_, Or.inl ⟨by rfl, fun w' hS => by have e0 := Upd.cell1 hS q0 (by simp); have e1 := Upd.cell1 hS q1 (by simp); first | (go_simp; done) | (go_simp; with_reducible rfl)⟩, ?_⟩
  simp only [Act.put, List.setIfInBounds_toArray, List.set_cons_zero, List.set_cons_succ]
  refine ⟨_, Or.inl ⟨by rfl, fun w' hS => by first | (go_simp; done) | (go_simp; with_reducible rfl)⟩, ?_⟩
  simp only [Act.put, List.setIfInBounds_toArray, List.set_cons_zero, List.set_cons_succ]
  refine ⟨_, Or.inl ⟨by rfl, fun w' hS => by first | (go_simp; done) | (go_simp; with_reducible rfl)⟩, ?_⟩
  simp only [Act.put, List.setIfInBounds_toArray, List.set_cons_zero, List.set_cons_succ]
  refine ⟨_, Or.inl ⟨by rfl, fun w' hS => by first | (go_simp; done) | (go_simp; with_reducible rfl)⟩, ?_⟩
  simp only [Act.put, List.setIfInBounds_toArray, List.set_cons_zero, List.set_cons_succ]
  refine ⟨_, Or.inl ⟨by rfl, fun w' hS => by have e0 := Upd.cell1 hS q0 (by simp); have e1 := Upd.cell1 hS q1 (by simp); first | (go_simp; done) | (go_simp; with_reducible rfl)⟩, ?_⟩
  simp only [Act.put, List.setIfInBounds_toArray, List.set_cons_zero, List.set_cons_succ]
  intro L0 hL0
  rw [if_pos (by rfl)]
  go_simp; refine (Rows_S _ _ _ _ _ _ _).mono ?_; rintro e w2 ⟨rfl, hu2⟩
  refine hL0 _ _ ⟨hu2.ofDrew, ?_⟩
  clear hL0 L0
  intro L1 hL1
  rw [if_pos (by rfl)]
  go_simp
  refine hL1 _ _ ⟨hu2.ofDrew, ?_⟩
  clear hL1 L1
  intro L2 hL2
  rw [if_pos (by rfl)]
  go_simp
  refine hL2 _ _ ⟨hu2.ofDrew.alloc _, ?_⟩
  clear hL2 L2
  try simp only [preThen]
  change wpList _ _ _ [_, _, _, _] _ _
  have hHd := hH1.kept hu2.ofDrew (by simp) (by simp)
  have hwu : IntKind.u64.wrap ((ts.length : Int) + n) = ((ts.length + n : Nat) : Int) := by
    rw [IntWalk.u64_in _ (by omega)]; omega
  rw [hwu]
  refine wpList_app1 _ rfl (.tmp 14) (.tmp 21) 202 rfl 26 (.int .u64 0) 1 8 Tryz.underlying202 Tryz.info26 rfl (by decide) hHd.own rfl [.int .u64 ((ts.length + n : Nat) : Int)] rfl rfl rfl (by simp [Value.oneCell']) (by decide) (by omega) ?_
  intro ao1 c1' w3 hown1 hupd1 hin1
  have hc1 := hHd.cell1 hupd1
  have hf1 := hHd.free1 hupd1
  go_wp2
  go_end0
  have hU12 := hu2.ofDrew
  have hq1 : q ∉ Fs1 := fun hx => (hG1 q hx).elim hq (fun h => by have := hlt q hqF; omega)
  have hs1 : ∀ x, x ∈ bk ao → x ∉ Fs1 := fun x hx hx' => (hG1 x hx').elim (hsep x hx) (fun h => by have := hlt x (haF x hx); omega)
  have hF1 := hC1.lt
  have hs2 : ∀ x, x ∈ bk ao1 → x ∉ Fs1 := fun x hx hx' => (hin1 x hx).elim (fun h => hs1 x h hx') (fun h => by have := hF1 x hx'; have := hU12.size; omega)
  have v3 := hHd.upd hupd1 (.slice ao1 (ends.length + 1) c1')
  have hC3 : StrCol (w3.setCell ⟨q, 0, none⟩ (.slice ao1 (ends.length + 1) c1')) p Fs1 (ts ++ ss.map byteCells) := (hC1.kept hU12 (by simp)).kept v3 (fun x hx hx' => by
    rcases List.mem_cons.1 hx' with h | h
    · exact hq1 (h ▸ hx)
    · exact hs1 x h hx)
  have hH3 := hHd.after hown1 hupd1 hin1
  have hUF : Upd F w (w3.setCell ⟨q, 0, none⟩ (.slice ao1 (ends.length + 1) c1')) := ((hU1.mono (fun x hx => .inl (hsF x hx))).trans hU12 (by simp)).trans v3 (fun x hx => .inl (by
    rcases List.mem_cons.1 hx with h | h
    · rw [h]; exact hqF
    · exact haF x h))
  refine ⟨rfl, q :: (bk ao1 ++ Fs1), ⟨ao1, c1', p, Fs1, ?_, hC3, hq1, hs2, by simp, fun x hx => by simp [hx], fun x hx => by simp [hx], ?_⟩, hUF, ?_⟩
  · simpa using hH3
  · intro x hx
    rcases List.mem_cons.1 hx with h | h
    · rw [h]; exact hH3.lt
    · rcases List.mem_append.1 h with h | h
      · exact hH3.bk_lt x h
      · exact hC3.lt x h
  · intro x hx
    rcases List.mem_cons.1 hx with h | h
    · exact .inl (by rw [h]; exact hqF)
    · rcases List.mem_append.1 h with h | h
      · exact (hin1 x h).imp (haF x) (fun h => by have := hU12.size; have := hU1.size; omega)
      · exact (hG1 x h).imp (hsF x) id

set_option maxRecDepth 100000 in
set_option maxHeartbeats 1000000 in
theorem ColArr_EncodeColumn (ends : List Int) (ts : List (List Value)) (oo : Option Addr) (co p : Nat) (Fs : List Nat) (bp : Nat) (ao : Option Addr) (m cc : Nat) (bs : List Value) (w : World)
    (ho : Row w 26 1 oo ends.length co (ends.map (Value.int .u64))) (hC : StrCol w p Fs ts) (hb : Hold w bp 210 5 1 ao m cc bs) (hno : ∀ x, x ∈ bk oo → x ∉ bp :: bk ao) (hns : ∀ x, x ∈ Fs → x ∉ bp :: bk ao)
    (h1 : Short ts) (hn : ts.length ≤ 10000) (hm : m ≤ 1000000) (ht : tot ts ≤ 1000000) (he : ends.length ≤ 1000) :
    Calls Tryz.prog 151 #[.agg #[.slice oo ends.length co, .iface 87 (.pointer (some ⟨p, 0, none⟩))], .pointer (some ⟨bp, 0, none⟩)] w fun e w' => e = .returned (.tuple #[]) ∧ Grew w w' bp 210 5 1 ao (m + ends.length * 8 + (encS ts).length) (bs ++ ends.flatMap (leV 8) ++ encS ts) := by
  go_enter Tryz.func151, Tryz.ntmps151
  obtain ⟨k1, u1, s1⟩ := alloc_facts w (Obj.cells #[.slice oo ends.length co, .iface 87 (.pointer (some ⟨p, 0, none⟩))] 322)
  have hb1 := hb.kept u1 (by simp) (by simp)
  have ho1 := ho.upd u1 (by simp)
  have hap : Apart oo bp ao := fun x hx => by
    have := hno x hx; simp at this; exact this
  go_wp2_with (go_at_call 160; apply stopHere)
  show Calls _ _ _ _ _
  generalize w.alloc (Obj.cells #[.slice oo ends.length co, .iface 87 (.pointer (some ⟨p, 0, none⟩))] 322) = W at *
  refine (ColUInt64_EncodeColumn oo ends.length co ends bp ao m cc bs W ho1.toView hb1 hap ho1.lt (by omega) (by omega)).mono ?_
  rintro e w2 ⟨rfl, ao2, c2, hH2, hU2, hI2⟩
  dsimp only
  have hbl := hb.lt
  have hbo := hb.own.lt
  have hnw : w.heap.size ∉ bp :: bk ao := fun hx => by
    rcases List.mem_cons.1 hx with h | h
    · omega
    · have := hbo _ h; omega
  have kk := hU2.at k1 hnw
  have q1 : w2.cell? ⟨w.heap.size, 1, none⟩ = some (.iface 87 (.pointer (some ⟨p, 0, none⟩))) := by simp only [World.cell?, kk]; rfl
  have hC2 := (hC.kept u1 (by simp)).kept hU2 hns
  have hCl := hC.lt
  obtain ⟨ab, cb, ap, cp, hA, _, hbF, hqF, _⟩ := hC2
  have c0 : w2.cell? ⟨p, 0, none⟩ = some (.slice ab (tot ts) cb) := by simp only [World.cell?, hA.blk]; rfl
  have c1 : w2.cell? ⟨p, 0 + 1, none⟩ = some (.slice ap ts.length cp) := by simp only [World.cell?, hA.blk]; rfl
  have hm2 := methP_S p _ _ (loadC_S p _ _ _ c0 c1)
  clear c0 c1 kk k1
  have hd2 : ∀ x, x ∈ Fs → x ∉ bp :: bk ao2 := fun x hx hx' => by
    have h3 := hns x hx
    rcases List.mem_cons.1 hx' with h | h
    · exact h3 (by rw [h]; exact List.mem_cons_self)
    · rcases hI2 x h with h | h
      · exact h3 (List.mem_cons_of_mem _ h)
      · have := hCl x hx; omega
  have hlenB : (bs ++ ends.flatMap (leV 8)).length = m + ends.length * 8 := by have := hH2.own.len; omega
  go_wp2_with (go_at_call 186; (refine (ColStr_EncodeColumn _ _ _ _ ts _ _ _ _ _ _ hA.buf.toView hA.pos.toView hA.buf.cap.1 hH2 (fun x hx => hd2 x (hbF x hx)) (fun x hx => hd2 x (hqF x hx)) h1 hn (by omega) (by omega)).mono ?_); rintro e w3 ⟨rfl, ao3, c3, hH3, hU3, hI3⟩)
  go_end0
  refine ⟨rfl, ao3, c3, hH3, ((u1.mono (by simp)).trans hU2 (fun _ h => .inl h)).trans hU3 (fun y hy => ?_), ?_⟩
  · rcases List.mem_cons.1 hy with h | h
    · exact .inl (by rw [h]; exact List.mem_cons_self)
    · rcases hI2 y h with h | h
      · exact .inl (List.mem_cons_of_mem _ h)
      · exact .inr (Nat.le_trans u1.size h)
  · exact (hI2.step hI3 hU2.size).le u1.size
end Go.Proofs.YtpehfhdacgjmpaaGreat
