/- Blocks that are not read: cut, or asked for otherwise. -/
import Derived.Test.YtfbohkbpgfnceaaGreatDoorFB
import Derived.Test.YtfbohkbpgfnceaaGreatDoorME
namespace Go.Proofs.YtfbohkbpgfnceaaGreatDoor
set_option linter.unusedVariables false
set_option linter.unusedSimpArgs false
open Go Go.RowKit
/-- what stands ahead of a raw block -/
def preV (v : Int) (ov : Bool) (b : Int) : List Value := if 51903 ≤ v then infoV ov b else []
theorem blkB_eq (v : Int) (ov : Bool) (b : Int) (R : Nat) (bs : List Bc) : blkB v ov b R bs = preV v ov b ++ (.int .u8 bs.length :: .int .u8 R :: bodyV v bs) := rfl
theorem Err1.mono {F G : List Nat} {w : World} {e : Ending} {w' : World} (h : Err1 F w e w') (hF : ∀ x, x ∈ F → x ∈ G) : Err1 G w e w' := ⟨h.1, h.2.mono (fun x hx => .inl (hF x hx))⟩
theorem fst_at {α β : Type} {qs : List (α × β)} {ts : List α} (h : qs.map Prod.fst = ts) (i : Nat) (hi : i < ts.length) (hq : i < qs.length) : qs[i].1 = ts[i] := by
  subst h
  simp
set_option maxHeartbeats 400000 in
theorem BKDecode_bad (ov : Bool) (b v : Int) (hb : -2147483648 ≤ b ∧ b < 2147483648) (R : Nat) (hR0 : 0 < R) (hR : R ≤ 20) (d o N c : Nat) (ac : Option Addr) (cc : Nat) (ts : List Bc) (hn : ts.length ≤ 10) (hok : ∀ x ∈ ts, OkB x) (hrn : ∀ x ∈ ts, x.rs.length = R) (hnm : ∀ x ∈ ts, 0 < x.nm.size) (i : Nat) (hi : i < ts.length) (tail : List Value) (hbad : Bad v ts[i] tail) (w : World)
    (hcv : View w 3 ac ts.length (ts.flatMap Bc.cells)) (hr : w.rangeAt d o (preV v ov b ++ (.int .u8 ts.length :: .int .u8 R :: (bodyV v (ts.take i) ++ tail)))) (hN : N = (preV v ov b ++ (.int .u8 ts.length :: .int .u8 R :: (bodyV v (ts.take i) ++ tail))).length) (hNc : N ≤ c) (hby : AllBytes (preV v ov b ++ (.int .u8 ts.length :: .int .u8 R :: (bodyV v (ts.take i) ++ tail)))) (hdl : d < w.heap.size) :
    Calls Tryz.prog 10 #[.slice (some ⟨d, o, none⟩) N c, .int .i64 v, .slice ac ts.length cc] w (NotRead w) := by
  refine BKDecode_E v _ d o N c ac cc ts hn (fun x hx => (hok x hx).ok) w hcv hr hN hNc hby hdl (fun kb rd bf ar cr qs W hqs hRd hk ho hp => ?_)
  have hql : qs.length = ts.length := by rw [← hqs, List.length_map]
  have hin : ∀ q ∈ qs, q.1 ∈ ts := fun q hq => by rw [← hqs]; exact List.mem_map_of_mem hq
  have hqi : i < qs.length := by omega
  have hq1 : qs[i].1 = ts[i] := fst_at hqs i hi hqi
  have hqt : (qs.take i).map Prod.fst = ts.take i := by rw [List.map_take, hqs]
  refine DecodeBlock_E kb rd bf d none ov b v hb ar _ qs _ W hRd hk ho hp (fun ao' ov' b' W' hR' hk' ho' hp' => ?_)
  refine DecodeRawBlock_E kb rd bf d ao' ov' b' v ts.length R (by omega) hR0 hR ar ts.length cr qs _ W' hR' hk' ho' hp' (fun ao2 W2 hR2 hp2 => ?_)
  have hF := DecodeResult_F rd bf d ao2 ov' b' v R hR0 hR ar cr qs (by omega) i hqi tail W2 (by rw [hqt]; exact hR2) (by rw [hq1]; exact hbad) (fun q hq => hok _ (hin q hq)) (fun q hq => hrn _ (hin q hq)) (fun q hq => hnm _ (hin q hq)) hp2.view (fun x hx hx' => hp2.arn x hx (List.mem_cons_of_mem _ hx')) hp2.nd hp2.emp hp2.nn
  rw [hql] at hF
  exact hF
set_option maxHeartbeats 400000 in
theorem BKDecode_many (ov : Bool) (b v : Int) (hb : -2147483648 ≤ b ∧ b < 2147483648) (nb R : Nat) (hnb : nb ≤ 100) (hR0 : 0 < R) (hR : R ≤ 20) (rest : List Value) (d o N c : Nat) (ac : Option Addr) (cc : Nat) (ts : List Bc) (hn : ts.length ≤ 10) (hne : nb ≠ ts.length) (hok : ∀ x ∈ ts, KdOK x.K) (w : World)
    (hcv : View w 3 ac ts.length (ts.flatMap Bc.cells)) (hr : w.rangeAt d o (preV v ov b ++ (.int .u8 nb :: .int .u8 R :: rest))) (hN : N = (preV v ov b ++ (.int .u8 nb :: .int .u8 R :: rest)).length) (hNc : N ≤ c) (hby : AllBytes (preV v ov b ++ (.int .u8 nb :: .int .u8 R :: rest))) (hdl : d < w.heap.size) :
    Calls Tryz.prog 10 #[.slice (some ⟨d, o, none⟩) N c, .int .i64 v, .slice ac ts.length cc] w (NotRead w) := by
  refine BKDecode_E v _ d o N c ac cc ts hn hok w hcv hr hN hNc hby hdl (fun kb rd bf ar cr qs W hqs hRd hk ho hp => ?_)
  refine DecodeBlock_E kb rd bf d none ov b v hb ar _ qs _ W hRd hk ho hp (fun ao' ov' b' W' hR' hk' ho' hp' => ?_)
  refine DecodeRawBlock_E kb rd bf d ao' ov' b' v nb R hnb hR0 hR ar ts.length cr qs _ W' hR' hk' ho' hp' (fun ao2 W2 hR2 hp2 => ?_)
  refine (DecodeResult_M rd ov' b' v nb R ts.length hR0 hne ar cr W2).mono (fun e w' h => ?_)
  exact ⟨h.1, h.2.mono (by simp)⟩
theorem body_cut (v : Int) : ∀ (bs : List Bc) (m : Nat), m < (bodyV v bs).length → ∃ (jj : Nat) (hj : jj < bs.length) (m3 : Nat), m3 < (colV v bs[jj]).length ∧ (bodyV v bs).take m = bodyV v (bs.take jj) ++ (colV v bs[jj]).take m3
  | [], m, h => by simp [bodyV] at h
  | b :: bs, m, h => by
    have hb : bodyV v (b :: bs) = colV v b ++ bodyV v bs := by simp [bodyV]
    rw [hb] at h ⊢
    by_cases h1 : m < (colV v b).length
    · exact ⟨0, by simp, m, h1, by rw [List.take_append_of_le_length (by omega)]; simp [bodyV]⟩
    · obtain ⟨m1, rfl⟩ : ∃ m1, m = (colV v b).length + m1 := ⟨m - (colV v b).length, by omega⟩
      rw [List.length_append] at h
      obtain ⟨jj, hj, m3, h3, h4⟩ := body_cut v bs m1 (by omega)
      refine ⟨jj + 1, by simp; omega, m3, by simpa using h3, ?_⟩
      rw [List.take_length_add_append, h4]
      simp [bodyV]
set_option maxHeartbeats 400000 in
/-- a beginning of a block's bytes, which is not all of them -/
theorem BKDecode_cut (ov : Bool) (b v : Int) (hb : -2147483648 ≤ b ∧ b < 2147483648) (R : Nat) (hR0 : 0 < R) (hR : R ≤ 20) (d o m c : Nat) (ac : Option Addr) (cc : Nat) (ts : List Bc) (hn : ts.length ≤ 10) (hok : ∀ x ∈ ts, OkB x) (hrn : ∀ x ∈ ts, x.rs.length = R) (hnm : ∀ x ∈ ts, 0 < x.nm.size) (hsh : ∀ x ∈ ts, KdShort x.K) (w : World)
    (hcv : View w 3 ac ts.length (ts.flatMap Bc.cells)) (hm : m < (blkB v ov b R ts).length) (hr : w.rangeAt d o ((blkB v ov b R ts).take m)) (hNc : m ≤ c) (hdl : d < w.heap.size) :
    Calls Tryz.prog 10 #[.slice (some ⟨d, o, none⟩) m c, .int .i64 v, .slice ac ts.length cc] w (NotRead w) := by
  have hall : AllBytes ((blkB v ov b R ts).take m) := fun u hu => blkB_bytes hok hn hR u (List.mem_of_mem_take hu)
  have hlm : m = ((blkB v ov b R ts).take m).length := by rw [List.length_take]; omega
  rw [blkB_eq] at hr hm hall hlm
  by_cases h1 : m < (preV v ov b).length
  · have hv : 51903 ≤ v := by
      unfold preV at h1
      split at h1
      · assumption
      · simp at h1
    have h8 : m < 8 := by
      unfold preV at h1
      rw [if_pos hv, infoV_len] at h1
      exact h1
    have ht : (preV v ov b ++ (Value.int .u8 ts.length :: .int .u8 R :: bodyV v ts)).take m = (infoV ov b).take m := by
      rw [List.take_append_of_le_length (by omega), preV, if_pos hv]
    rw [ht] at hr hall hlm
    refine BKDecode_E v _ d o m c ac cc ts hn (fun x hx => (hok x hx).ok) w hcv hr hlm hNc hall hdl (fun kb rd bf ar cr qs W hqs hRd hk ho hp => ?_)
    exact (DecodeBlock_I kb rd bf d none ov b v hb hv _ m h8 W hRd hk ho).mono (fun e w' h => h.mono (fun y hy => kF_of y hy))
  · obtain ⟨m1, hm1⟩ : ∃ m1, m = (preV v ov b).length + m1 := ⟨m - (preV v ov b).length, by omega⟩
    have ht : (preV v ov b ++ (Value.int .u8 ts.length :: .int .u8 R :: bodyV v ts)).take m = preV v ov b ++ (Value.int .u8 ts.length :: .int .u8 R :: bodyV v ts).take m1 := by
      rw [hm1, List.take_length_add_append]
    rw [ht] at hr hall hlm
    rw [List.length_append] at hm
    by_cases h2 : m1 < 2
    · have hX : Head2 ts.length R ((Value.int .u8 ts.length :: .int .u8 R :: bodyV v ts).take m1) := by
        have : m1 = 0 ∨ m1 = 1 := by omega
        rcases this with rfl | rfl
        · exact .inl rfl
        · exact .inr rfl
      refine BKDecode_E v _ d o m c ac cc ts hn (fun x hx => (hok x hx).ok) w hcv hr hlm hNc hall hdl (fun kb rd bf ar cr qs W hqs hRd hk ho hp => ?_)
      refine DecodeBlock_E kb rd bf d none ov b v hb ar _ qs _ W hRd hk ho hp (fun ao' ov' b' W' hR' hk' ho' hp' => ?_)
      exact (DecodeRawBlock_H kb rd bf d ao' ov' b' v ts.length R (by omega) _ _ hX W' hR' hk' ho').mono (fun e w' h => h.mono (fun y hy => kF_of y hy))
    · obtain ⟨m2, rfl⟩ : ∃ m2, m1 = m2 + 2 := ⟨m1 - 2, by omega⟩
      simp only [List.length_cons] at hm
      obtain ⟨jj, hj, m3, h3, h4⟩ := body_cut v ts m2 (by omega)
      have ht2 : (Value.int .u8 ts.length :: .int .u8 R :: bodyV v ts).take (m2 + 2) = Value.int .u8 ts.length :: .int .u8 R :: (bodyV v (ts.take jj) ++ (colV v ts[jj]).take m3) := by
        rw [← h4]
        rfl
      rw [ht2] at hr hall hlm
      have hjm : ts[jj] ∈ ts := List.getElem_mem _
      exact BKDecode_bad ov b v hb R hR0 hR d o m c ac cc ts hn hok hrn hnm jj hj _ (Bad.cut (hok _ hjm) (hsh _ hjm) m3 h3) w hcv hr hlm hNc hall hdl
end Go.Proofs.YtfbohkbpgfnceaaGreatDoor
