/- impl.encodes of whatever column; slices.Grow and slices.Concat of bytes. -/
import Derived.Test.YtpehfhdacgjmpaaGreatArrEnc
import Derived.Test.YtpehfhdacgjmpaaGreatArrWalk
namespace Go.Proofs.YtpehfhdacgjmpaaGreat
open Go Go.RowKit
set_option maxRecDepth 100000 in
set_option maxHeartbeats 1000000 in
theorem encodes_of (T : TypeId) (v : Value) (I : World → Prop) (hk : ∀ w w', I w → Upd [] w w' → I w') (N : Nat) (bs : List Value)
    (hp : ∀ w, I w → Calls Tryz.prog 105 #[.iface T v] w fun e w' => e = .returned (.bool true) ∧ Upd [] w w')
    (he : ∀ w, I w → Calls Tryz.prog 30 #[.func (Fn.method "EncodeColumn") #[.iface T v] #[]] w (Made w N bs)) (w : World) (h : I w) :
    Calls Tryz.prog 48 #[.iface T v] w fun e w' => (∃ ao c', e = .returned (.tuple #[.slice ao N c', .bool true]) ∧ Row w' 5 1 ao N c' bs) ∧ Upd [] w w' := by
  have hmf : ∀ (fn : Fn) (first cap : Array Value) (w : World), (Instr.makeFunc fn first cap).run Tryz.prog w = .ok (.func fn first cap) w := fun _ _ _ _ => rfl
  obtain ⟨k1, u1, s1⟩ := alloc_facts w (Obj.cells #[.bool false] 4)
  have hC1 := hk _ _ h u1
  go_enter_defers Tryz.func48, Tryz.ntmps48
  go_wp2_with (go_at_call 105; apply stopHere)
  show Calls _ _ _ _ _
  generalize w.alloc (Obj.cells #[.bool false] 4) = W at *
  refine (hp W hC1).mono ?_
  rintro e w2 ⟨rfl, hu2⟩
  dsimp only
  have hC2 := hk _ _ hC1 hu2
  have k2 := hu2.at k1 (by simp)
  go_wp2_with (first
    | (go_at_call 30; (refine (he _ hC2).mono ?_); rintro e w3 ⟨ao3, c3, rfl, hR3, hU3, hI3⟩; have e1 := hU3.at k2 (by simp); have e0 := cell_of_one e1; have f0 := free_of_one e1))
  have hne : w.heap.size ∉ bk ao3 := fun hx => by
    rcases hI3 _ hx with h | h
    · simp at h
    · have := hu2.size; omega
  have hR := hR3.setOther hne (Value.bool true)
  have hup := ((u1.trans hu2 (fun _ h => .inl h)).trans hU3 (fun _ h => .inl h)).setCell (p := ⟨w.heap.size, 0, none⟩) (Value.bool true) (.inr (Nat.le_refl _))
  have hc : (w3.setCell ⟨w.heap.size, 0, none⟩ (Value.bool true)).heap[w.heap.size]? = some (.cells #[.bool true] 4 (0, 0)) := one_setCell e1
  refine leaves_cons (f := 99) (args := #[.pointer (some ⟨w.heap.size, 0, none⟩)]) (by simp) (by simp [go_sem]) ?_
  refine (caught_idle ⟨w.heap.size, 0, none⟩ _).mono ?_
  rintro e u' w'' ⟨rfl, rfl, rfl⟩
  have hcc := cell_of_one hc
  simp [Leaves, settle, results, Tryz.results48, go_sem, hcc]
  exact ⟨⟨ao3, c3, ⟨rfl, rfl⟩, hR⟩, hup⟩

/-! ### slices.Grow, slices.Concat -/
theorem Row.cut0 {w : World} {e : TypeId} {size n c : Nat} {ao : Option Addr} {xs : List Value} (h : Row w e size ao n c xs) : Row w e size ao 0 c [] := by
  rcases h.2 with ⟨h1, h0⟩ | ⟨g, cap, cur, hv, _, hg, h1, h2, h3, _⟩
  · simp only [Value.slice.injEq] at h1
    obtain ⟨rfl, _, rfl⟩ := h1
    exact Row.nil
  · simp only [Value.slice.injEq] at hv
    obtain ⟨rfl, _, rfl⟩ := hv
    exact Row.of cur hg (Nat.zero_le _) h2 h3 (by simp)
set_option maxRecDepth 100000 in
set_option maxHeartbeats 1000000 in
theorem Grow0 (n : Nat) (w : World) (hn : n ≤ 10000000) :
    Calls Tryz.prog 49 #[.slice none 0 0, .int .i64 n] w fun e w' => (∃ ao c, e = .returned (.slice ao 0 c) ∧ Row w' 5 1 ao 0 c [] ∧ In [] w.heap.size ao) ∧ Upd [] w w' := by
  have h1 : ¬ ((n : Int) < 0) := by omega
  have h2 : wrap64 ((n : Int) - 0) = (n : Int) := by unfold wrap64; omega
  go_enter Tryz.func49, Tryz.ntmps49
  by_cases h0 : n = 0
  · subst h0
    go_wp2
    go_ret
    exact ⟨⟨none, 0, rfl, Row.nil, In.nil⟩, Upd.refl _ _⟩
  · have h3 : (0 : Int) < n := by omega
    go_wp2_with (at_builtin; refine wpList_zeros _ rfl (.tmp 20) (.tmp 21) 29 3 rfl 5 (.int .u8 0) 1 1 .i64 Tryz.underlying29 Tryz.underlying3 Tryz.info5 rfl (by decide) (by simp [Value.cells, Value.oneCell']) Row.nil rfl n (by omega) rfl (by omega) (by decide) (by omega) ?_; intro ao1 c1 w1 hown1 hupd1 hin1)
    go_ret
    exact ⟨⟨ao1, c1, rfl, hown1.cut0, hin1⟩, hupd1⟩
theorem tot_take_succ' (ts : List (List Value)) (k : Nat) (h : k < ts.length) : tot (ts.take (k + 1)) = tot (ts.take k) + (ts[k]).length := tot_take_succ ts k h
set_option maxRecDepth 100000 in
set_option maxHeartbeats 1000000 in
theorem Concat (ar : Option Addr) (n c : Nat) (vs : List Value) (ts : List (List Value)) (w : World) (hr : View w 1 ar n vs) (hT : TextsV w [] n vs ts) (hn : n ≤ 1000) (htot : tot ts ≤ 1000000) :
    Calls Tryz.prog 24 #[.slice ar n c] w (Made w (tot ts) (ts.flatMap id)) := by
  have htl := hT.lent
  have hsum : ∀ k, tot (ts.take k) ≤ 1000000 := fun k => Nat.le_trans (tot_take_le ts k) htot
  go_enter Tryz.func24, Tryz.ntmps24
  go_wp2
  go_loopw [3, 11] (fun s i wr => ∃ k : Nat, k ≤ n ∧ i = .int .i64 k ∧ s = .int .i64 (tot (ts.take k) : Nat) ∧ Upd [] w wr)
    (fun _ i _ => n - (intOf i).toNat)
  case atStart => exact ⟨0, Nat.zero_le _, rfl, by simp [tot], Upd.refl _ _⟩
  case round =>
    obtain ⟨k, hk, rfl, rfl, hU⟩ := hrel
    have hsk := hsum k
    by_cases hlt : k < n
    · have hk0 : ((k : Int) < n) := by omega
      obtain ⟨b, o, rfl, hrr, hbb⟩ := hr.at_ (by omega)
      obtain ⟨ax, cx, hv1, _, _, _⟩ := hT.at_ k hlt
      have hts := tot_take_succ ts k (by omega)
      have hsk1 := hsum (k + 1)
      obtain ⟨t, ht⟩ : ∃ t, t = ts[k]'(by omega) := ⟨_, rfl⟩
      rw [← ht] at hv1 hts
      have hcell : wr.cell? ⟨b, o + k, none⟩ = some (.slice ax t.length cx) := (hU.cell hbb (by simp)).trans (hrr k _ hv1)
      obtain ⟨A, hA⟩ : ∃ A, A = tot (ts.take k) := ⟨_, rfl⟩
      obtain ⟨A1, hA1⟩ : ∃ A1, A1 = tot (ts.take (k + 1)) := ⟨_, rfl⟩
      rw [← hA, ← hA1] at hts
      rw [← hA] at hsk ⊢
      rw [← hA1] at hsk1
      have HA := Lib.hid hA1
      have hneg : ¬ ((A : Int) + t.length < 0) := by omega
      clear ht hA hA1
      go_wp2
      go_roundw
      case rel => exact ⟨k + 1, by omega, by go_num, by rw [← HA.out, hts]; go_num, hU⟩
      case measure => simp [intOf]; omega
    · have hk0 : n ≤ k := by omega
      obtain rfl : k = n := by omega
      have e9 : ts.take k = ts := List.take_of_length_le (by omega)
      rw [e9] at hsk ⊢
      obtain ⟨A, hA⟩ : ∃ A, A = tot ts := ⟨_, rfl⟩
      rw [← hA] at hsk ⊢
      have HA := Lib.hid hA
      clear hA e9
      go_wp2_with (go_at_call 49; (refine (Grow0 A _ (by omega)).mono ?_); rintro e w1 ⟨⟨ag, cg, rfl, hRg, hIg⟩, hUg⟩)
      have hU1 := hU.trans hUg (by simp)
      go_loopw [6, 27] (fun s i wr => ∃ (j : Nat) (ao : Option Addr) (c' : Nat), j ≤ k ∧ i = .int .i64 j ∧ s = .slice ao (tot (ts.take j)) c' ∧ Row wr 5 1 ao (tot (ts.take j)) c' ((ts.take j).flatMap id) ∧ Upd [] w wr ∧ In [] w.heap.size ao)
        (fun _ i _ => k - (intOf i).toNat)
      case atStart => exact ⟨0, ag, cg, Nat.zero_le _, rfl, by simp [tot], by simpa [tot] using hRg, hU1, hIg.le hU.size⟩
      case round =>
        obtain ⟨j, ao, c', hj, rfl, rfl, hR, hUr, hI⟩ := hrel
        have hsj := hsum j
        by_cases hjl : j < k
        · have hj0 : ((j : Int) < k) := by omega
          obtain ⟨b, o, rfl, hrr, hbb⟩ := hr.at_ (by omega)
          obtain ⟨ax, cx, hv1, hv2, hv3, hv4⟩ := hT.at_ j hjl
          have hts := tot_take_succ ts j (by omega)
          have hsj1 := hsum (j + 1)
          have hfs := flatMap_take_succ id ts j (by omega)
          obtain ⟨t, ht⟩ : ∃ t, t = ts[j]'(by omega) := ⟨_, rfl⟩
          rw [← ht] at hv1 hv2 hv3 hts hfs
          have hcell : wr.cell? ⟨b, o + j, none⟩ = some (.slice ax t.length cx) := (hUr.cell hbb (by simp)).trans (hrr j _ hv1)
          have hx := hv2.upd hUr (by simp)
          obtain ⟨A2, hA2⟩ : ∃ A2, A2 = tot (ts.take j) := ⟨_, rfl⟩
          rw [← hA2] at hR hts hsj ⊢
          have HF := Lib.hid hfs
          have HT := Lib.hid hts
          clear ht hA2 hfs
          go_wp2_with (at_builtin; refine wpList_app _ rfl (.tmp 31) (.tmp 32) 29 29 rfl 5 (.int .u8 0) 1 1 Tryz.underlying29 Tryz.info5 rfl (by decide) hR rfl (hx.src hv3.one) rfl (by decide) (by omega) ?_; intro ao1 c1 w2 hown1 hupd1 hin1)
          have hUx : Upd [] w w2 := hUr.trans hupd1 (fun y hy => (hI y hy).elim (fun h => by simp at h) .inr)
          have hIx : In [] w.heap.size ao1 := hI.step hin1 hUr.size
          have hRx : Row w2 5 1 ao1 (tot (ts.take (j + 1))) c1 ((ts.take (j + 1)).flatMap id) := by
            rw [HT.out, HF.out]
            exact hown1
          have hTo := HT.out
          clear hown1 hupd1 hin1 hR
          go_roundw
          case rel => exact ⟨j + 1, ao1, c1, by omega, by go_num, by rw [hTo], hRx, hUx, hIx⟩
          case measure => simp [intOf]; omega
        · have hj0 : k ≤ j := by omega
          obtain rfl : j = k := by omega
          have e9 : ts.take j = ts := List.take_of_length_le (by omega)
          rw [e9] at hR hsj ⊢
          rw [← HA.out] at hR ⊢
          go_wp2
          go_ret
          refine ⟨ao, c', ?_, ?_, hUr, hI⟩
          · rw [← HA.out]; rfl
          · rw [← HA.out]; exact hR
end Go.Proofs.YtpehfhdacgjmpaaGreat
