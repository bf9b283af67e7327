/- impl.ARTuple. -/
import Derived.Test.YtpehfhdacgjmpaaGreatTup
namespace Go.Proofs.YtpehfhdacgjmpaaGreat
open Go Go.RowKit
set_option maxRecDepth 100000 in
set_option maxHeartbeats 2000000 in
theorem ARTuple (aa ab ar : Option Addr) (n ca cb c : Nat) (ss : List ByteArray) (bs : List Int) (vs : List Value) (sss : List (List ByteArray)) (w : World) (ha : View w 1 aa n (ss.map Value.string)) (hb : View w 1 ab n (bs.map (Value.int .u32)))
    (hr : View w 1 ar n vs) (hS : StrsV w n vs sss) (hfew : Few sss) (hss : ∀ s ∈ ss, s.size ≤ 60) :
    Calls Tryz.prog 23 #[.slice aa n ca, .slice ab n cb, .slice ar n c] w fun e w' =>
      (∃ ao c', e = .returned (.tuple #[.slice ao (tupBytes (ss.map byteCells) bs (endsN sss n) (sss.flatten.map byteCells) 3).length c', .bool true]) ∧
        Row w' 5 1 ao (tupBytes (ss.map byteCells) bs (endsN sss n) (sss.flatten.map byteCells) 3).length c' (tupBytes (ss.map byteCells) bs (endsN sss n) (sss.flatten.map byteCells) 3)) ∧ Upd [] w w' := by
  have hrows := hfew.rows
  have hlent := hS.lent
  have hsl : ss.length = n := by have := ha.len; simpa using this
  have hbl : bs.length = n := by have := hb.len; simpa using this
  have hC0 := StrCol.new w
  obtain ⟨k1, u1, s1⟩ := alloc_facts w (Obj.cells #[.slice none 0 0, .slice none 0 0] 90)
  have hR0 := hold_new (w.alloc (Obj.cells #[.slice none 0 0, .slice none 0 0] 90)) 96 53 1
  obtain ⟨k2, u2, s2⟩ := alloc_facts (w.alloc (Obj.cells #[.slice none 0 0, .slice none 0 0] 90)) (Obj.cells #[.slice none 0 0] 96)
  rw [s1] at s2 hR0
  have hC2 := hC0.kept u2 (by simp)
  have u12 := u1.trans u2 (by simp)
  have hold : ∀ y, ((0 < n ∧ y ∈ bk ar) ∨ ∃ (k : Nat) (ax : Option Addr) (l cx : Nat), vs[k]? = some (Value.slice ax l cx) ∧ y ∈ bk ax ∧ 0 < l) → y < w.heap.size := fun y hy => by
    rcases hy with ⟨h0, h⟩ | ⟨k, ax, l, cx, h1, h2, h3⟩
    · exact hr.lt h0 y h
    · have hk : k < n := by have := (List.getElem?_eq_some_iff.1 h1).1; have := hS.len; omega
      obtain ⟨ay, cy, h4, h5⟩ := hS.at_ k hk
      rw [h1] at h4
      simp only [Option.some.injEq, Value.slice.injEq] at h4
      obtain ⟨rfl, h6, _⟩ := h4
      exact h5.lt (by omega) y h2
  have q1 : (ss.map byteCells).length ≤ 20 := by rw [List.length_map]; omega
  have q2 : tot (ss.map byteCells) ≤ 1200 := by
    have h1 := tot_le ss 60 hss
    have h2 := Nat.mul_le_mul_right 60 (show ss.length ≤ 20 by omega)
    omega
  have q3 : Short (ss.map byteCells) := fun t ht => by
    obtain ⟨s, hs, rfl⟩ := List.mem_map.1 ht
    have := hss s hs
    exact ⟨by rw [byteCells_len]; omega, (byteCells_all s).one⟩
  have q4 := hfew.short
  have q5 : (sss.flatten.map byteCells).length ≤ 240 := by
    have := hfew.len sss.length
    rw [List.take_length] at this
    rw [List.length_map]; exact this
  have q6 : tot (sss.flatten.map byteCells) ≤ 14400 := by
    have := hfew.tot sss.length
    rwa [List.take_length] at this
  have q7 := endsN_len sss n
  obtain ⟨TS, hTS⟩ : ∃ TS, TS = ss.map byteCells := ⟨_, rfl⟩
  obtain ⟨TT, hTT⟩ : ∃ TT, TT = sss.flatten.map byteCells := ⟨_, rfl⟩
  obtain ⟨EN, hEN⟩ : ∃ EN, EN = endsN sss n := ⟨_, rfl⟩
  have hP1 := fun (p : Nat) (F : List Nat) (w : World) (h) (hv) (hav) => ColStr_AppendArr p F [] aa n ca ss w h hv hav (by omega) (fun s hs => by have := hss s hs; omega) (by simp) (by simp [tot])
  have hP3 := fun (q : Nat) (F : List Nat) (w : World) (h) (hr) (hS) (hF) => ColArr_AppendArr q F ar n c vs sss w h hr hS hfew hF
  rw [← hTS] at q1 q2 q3
  rw [← hTT] at q4 q5 q6
  rw [← hEN] at q7
  simp only [List.nil_append, ← hTS] at hP1
  simp only [← hEN, ← hTT] at hP3
  rw [← hTS, ← hTT, ← hEN]
  clear hTS hTT hEN k1 k2
  obtain ⟨N, hN⟩ : ∃ N, N = (tupBytes TS bs EN TT 3).length := ⟨_, rfl⟩
  obtain ⟨BS, hBS⟩ : ∃ BS, BS = tupBytes TS bs EN TT 3 := ⟨_, rfl⟩
  have hE := fun (g p r q : Nat) (Fp Fq : List Nat) (ao : Option Addr) (c : Nat) (w : World) (h) => encodes_T g p r q Fp Fq ao n c TS bs EN TT w h q3 q4 (by omega) (by omega) (by omega) (by omega) (by omega) (by omega)
  rw [← hN, ← hBS] at hE ⊢
  clear hN hBS
  go_enter Tryz.func23, Tryz.ntmps23
  go_wp2_with (go_at_call 38; apply stopHere)
  show Calls _ _ _ _ _
  generalize (w.alloc (Obj.cells #[.slice none 0 0, .slice none 0 0] 90)).alloc (Obj.cells #[.slice none 0 0] 96) = W at *
  refine (strs_new W).mono ?_
  rintro e w1 ⟨q, Fq, rfl, hA1, hu1, hFq⟩
  dsimp only
  have hU1 := u12.trans hu1 (by simp)
  have hC1 := hC2.kept hu1 (by simp)
  have hR1 := hR0.kept hu1 (by simp) (by simp)
  go_wp2_with (first
    | (go_at_call 45; (with_reducible refine (hP1 w.heap.size _ _ hC1 (ha.upd hU1 (by simp)) (fun h0 x hx hx' => by have := ha.lt h0 x hx; simp at hx'; omega)).mono ?_); rintro e w3 ⟨rfl, Fp, hC3, hU3, hG3⟩; have hU3' : Upd [] w w3 := hU1.trans hU3 (fun y hy => .inr (by simp at hy; omega)); have hR3 := hR1.kept hU3 (by simp) (by simp); have hA3 := hA1.kept hU3 (fun x hx hx' => by have := hFq x hx; simp at hx'; omega); have hFp : ∀ x, x ∈ Fp → x = w.heap.size ∨ w1.heap.size ≤ x := fun x hx => by simpa using hG3 x hx)
    | (go_at_call 46; (with_reducible refine (ColUInt32_AppendArr (w.heap.size + 1) _ _ _ _ ab n cb bs _ hR3 (hb.upd hU3' (by simp)) (by omega) (by omega)).mono ?_); rintro e w4 ⟨rfl, ao4, c4, hR4, hU4, hI4⟩; have hU4' : Upd [] w w4 := hU3'.trans hU4 (fun y hy => .inr (by simp at hy; omega)); have hC4 := hC3.kept hU4 (fun x hx hx' => by have h1 := hFp x hx; have := hu1.size; simp at hx'; omega); have hA4 := hA3.kept hU4 (fun x hx hx' => by have := hFq x hx; simp at hx'; omega); have hao4 : ∀ x, x ∈ bk ao4 → w3.heap.size ≤ x := fun x hx => (hI4 x hx).elim (fun h => by simp at h) id)
    | (go_at_call 47; apply stopHere))
  show Calls _ _ _ _ _
  refine (hP3 q Fq _ hA4 (hr.upd hU4' (by simp)) (hS.upd hU4') (fun x hx y hy e => by have := hold y hy; have := hFq x hx; omega)).mono ?_
  rintro e w5 ⟨rfl, Fq5, hA5, hU5, hG5⟩
  dsimp only
  have hltq := hA1.lt
  have hU5' : Upd [] w w5 := hU4'.trans hU5 (fun y hy => .inr (by have := hFq y hy; omega))
  have hC5 := hC4.kept hU5 (fun x hx hx' => by have h1 := hFp x hx; have h2 := hFq x hx'; have h3 := hltq x hx'; omega)
  have hR5 := hR4.kept hU5 (fun hx => by have := hFq _ hx; omega) (fun x hx hx' => by have := hao4 x hx; have := hltq x hx'; have := hU3.size; omega)
  obtain ⟨k6, u6, s6⟩ := alloc_facts w5 (Obj.cells #[.iface 87 (.pointer (some ⟨w.heap.size, 0, none⟩)), .iface 95 (.pointer (some ⟨w.heap.size + 1, 0, none⟩)), .iface 81 (.pointer (some ⟨q, 0, none⟩))] 325)
  have hTC : TupCol (w5.alloc (Obj.cells #[.iface 87 (.pointer (some ⟨w.heap.size, 0, none⟩)), .iface 95 (.pointer (some ⟨w.heap.size + 1, 0, none⟩)), .iface 81 (.pointer (some ⟨q, 0, none⟩))] 325)) w5.heap.size w.heap.size (w.heap.size + 1) q Fp Fq5 ao4 n c4 TS bs EN TT :=
    ⟨k6, hC5.kept u6 (by simp), by simpa using hR5.kept u6 (by simp) (by simp), hA5.kept u6 (by simp)⟩
  have hE6 := hE w5.heap.size w.heap.size (w.heap.size + 1) q Fp Fq5 ao4 c4 _ hTC
  go_wp2_with (go_at_call 48; (refine hE6.mono ?_); rintro e w7 ⟨⟨ao7, c7, rfl, hR7⟩, hU7⟩)
  refine bodyPost_ret (results_tmp2 Tryz.results23 _ _ _) rfl ⟨⟨ao7, c7, rfl, hR7⟩, (hU5'.trans u6 (by simp)).trans hU7 (by simp)⟩
end Go.Proofs.YtpehfhdacgjmpaaGreat
