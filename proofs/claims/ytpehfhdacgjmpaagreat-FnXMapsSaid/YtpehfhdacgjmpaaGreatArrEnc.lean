/- Arrays of strings: prepared, encodes, ARStr. -/
import Derived.Test.YtpehfhdacgjmpaaGreatArrCol
import Derived.Test.YtpehfhdacgjmpaaGreatAwAll
import Derived.Stop.Asserts
namespace Go.Proofs.YtpehfhdacgjmpaaGreat
open Go Go.RowKit
theorem methQ2_A (k q : Nat) (w : World) : (method (k + 1) 81 (.pointer (some ⟨q, 0, none⟩)) "EncodeColumn").run Tryz.prog w = (do let v ← receiverAt 81 (.val (.pointer (some ⟨q, 0, none⟩))) false (some "EncodeColumn"); pure (151, v) : Sem (FuncId × Value)).run Tryz.prog w := by kernel_rfl
theorem methQ3_A (q : Nat) (w : World) : (receiverAt 81 (.val (.pointer (some ⟨q, 0, none⟩))) false (some "EncodeColumn")).run Tryz.prog w = (loadVar 322 ⟨q, 0, none⟩).run Tryz.prog w := by kernel_rfl
theorem methQ_A (q : Nat) (w : World) (v : Value) (h : (loadVar 322 ⟨q, 0, none⟩).run Tryz.prog w = .ok v w) : (method 706 81 (.pointer (some ⟨q, 0, none⟩)) "EncodeColumn").run Tryz.prog w = .ok (151, v) w := by
  rw [show 706 = (706 - 1) + 1 from rfl, methQ2_A]
  simp only [Sem.run_bind, methQ3_A, h, Result.andThen_ok, Sem.run_pure]
theorem loadC_A (p : Nat) (w : World) (u v : Value) (h : w.cell? ⟨p, 0, none⟩ = some u) (h' : w.cell? ⟨p, 0 + 1, none⟩ = some v) : (loadVar 322 ⟨p, 0, none⟩).run Tryz.prog w = .ok (.agg #[u, v]) w := by
  go_simp
  done
theorem methP_A (q : Nat) (w : World) : (method 706 81 (.pointer (some ⟨q, 0, none⟩)) "Prepare").run Tryz.prog w = .ok (152, .pointer (some ⟨q, 0, none⟩)) w := by kernel_rfl
theorem methAp_A (q : Nat) (w : World) : (method 706 81 (.pointer (some ⟨q, 0, none⟩)) "Append").run Tryz.prog w = .ok (149, .pointer (some ⟨q, 0, none⟩)) w := by kernel_rfl
theorem ArrCol.kept {w w1 : World} {q : Nat} {F G : List Nat} {ends : List Int} {ts : List (List Value)} (h : ArrCol w q F ends ts) (hu : Upd G w w1) (hG : ∀ x, x ∈ F → x ∉ G) : ArrCol w1 q F ends ts := by
  obtain ⟨ao, c, p, Fs, hH, hC, h1, h2, h3, h4, h5, h6⟩ := h
  exact ⟨ao, c, p, Fs, hH.kept hu (hG q h3) (fun x hx => hG x (h4 x hx)), hC.kept hu (fun x hx => hG x (h5 x hx)), h1, h2, h3, h4, h5, fun x hx => Nat.lt_of_lt_of_le (h6 x hx) hu.size⟩
theorem ArrCol.lt {w : World} {q : Nat} {F : List Nat} {ends : List Int} {ts : List (List Value)} (h : ArrCol w q F ends ts) : ∀ x, x ∈ F → x < w.heap.size := by
  obtain ⟨_, _, _, _, _, _, _, _, _, _, _, h6⟩ := h; exact h6
theorem ArrCol.q {w : World} {q : Nat} {F : List Nat} {ends : List Int} {ts : List (List Value)} (h : ArrCol w q F ends ts) : q ∈ F := by
  obtain ⟨_, _, _, _, _, _, _, _, h3, _, _, _⟩ := h; exact h3
set_option maxRecDepth 100000 in
set_option maxHeartbeats 1000000 in
theorem enc_A (q : Nat) (F : List Nat) (ends : List Int) (ts : List (List Value)) (w : World) (h : ArrCol w q F ends ts) (h1 : Short ts) (hn : ts.length ≤ 10000) (ht : tot ts ≤ 1000000) (he : ends.length ≤ 1000) :
    Calls Tryz.prog 30 #[.func (Fn.method "EncodeColumn") #[.iface 81 (.pointer (some ⟨q, 0, none⟩))] #[]] w (Made w (ends.length * 8 + (encS ts).length) (ends.flatMap (leV 8) ++ encS ts)) := by
  go_enter Tryz.func30, Tryz.ntmps30
  have hB := newBuf w
  have u1 := (Upd.refl [] w).alloc (Obj.cells #[.slice none 0 0] 210)
  have hltw := h.lt
  obtain ⟨oo, co, p, Fs, hH, hC, hq, hsep, hqF, haF, hsF, _⟩ := h.kept u1 (by simp)
  have c0 := hH.cell
  have c1 := hH.cellN 0 (v := .iface 87 (.pointer (some ⟨p, 0, none⟩))) rfl
  have hm := methQ_A q _ _ (loadC_A q _ _ _ c0 c1)
  have ha1 : ∀ x, x ∈ bk oo → x ∉ w.heap.size :: bk none := fun x hx hx' => by
    have := hltw x (haF x hx); simp at hx'; omega
  have ha2 : ∀ x, x ∈ Fs → x ∉ w.heap.size :: bk none := fun x hx hx' => by
    have := hltw x (hsF x hx); simp at hx'; omega
  clear c0 c1
  go_wp2_with (go_at_call 151; (refine (ColArr_EncodeColumn ends ts oo co p Fs _ _ _ _ _ _ hH.own hC hB ha1 ha2 h1 hn (by omega) ht he).mono ?_); rintro e w2 ⟨rfl, ao2, c2, hH2, hU2, hI2⟩; have hc2 := hH2.cell)
  go_ret
  rw [Nat.add_assoc, List.append_assoc] at hH2
  exact Made.of (by simp) hH2 hU2 hI2
theorem ta_A (q : Nat) (w : World) : (Instr.typeAssert (.iface 81 (.pointer (some ⟨q, 0, none⟩))) 325 439 true).run Tryz.prog w = .ok (.tuple #[.iface 81 (.pointer (some ⟨q, 0, none⟩)), .bool true]) w := by kernel_rfl
theorem ta_S (p : Nat) (w : World) : (Instr.typeAssert (.iface 87 (.pointer (some ⟨p, 0, none⟩))) 215 439 true).run Tryz.prog w = .ok (.tuple #[.nilIface, .bool false]) w := run_typeAssert_lacksB Tryz.underlying439 (by kernel_rfl) (by kernel_rfl) _ _ w
set_option maxRecDepth 100000 in
set_option maxHeartbeats 1000000 in
theorem Prepare_A (q : Nat) (F : List Nat) (ends : List Int) (ts : List (List Value)) (w : World) (h : ArrCol w q F ends ts) : Calls Tryz.prog 152 #[.pointer (some ⟨q, 0, none⟩)] w fun e w' => e = .returned .nilIface ∧ w' = w := by
  obtain ⟨oo, co, p, Fs, hH, _⟩ := h
  have c1 := hH.cellN 0 (v := .iface 87 (.pointer (some ⟨p, 0, none⟩))) rfl
  have hta := ta_S p
  go_enter Tryz.func152, Tryz.ntmps152
  go_wp2
  go_ret
  exact ⟨rfl, rfl⟩
set_option maxRecDepth 100000 in
set_option maxHeartbeats 1000000 in
theorem prepared_A (q : Nat) (F : List Nat) (ends : List Int) (ts : List (List Value)) (w : World) (h : ArrCol w q F ends ts) : Calls Tryz.prog 105 #[.iface 81 (.pointer (some ⟨q, 0, none⟩))] w fun e w' => e = .returned (.bool true) ∧ w' = w := by
  have hm := methP_A q
  have hta := ta_A q
  go_enter Tryz.func105, Tryz.ntmps105
  go_wp2_with (go_at_call 152; (refine (Prepare_A q F ends ts _ h).mono ?_); rintro e w2 ⟨rfl, rfl⟩)
  go_ret
  exact ⟨rfl, rfl⟩

set_option maxRecDepth 100000 in
set_option maxHeartbeats 1000000 in
theorem encodes_A (q : Nat) (F : List Nat) (ends : List Int) (ts : List (List Value)) (w : World) (h : ArrCol w q F ends ts) (h1 : Short ts) (hn : ts.length ≤ 10000) (ht : tot ts ≤ 1000000) (he : ends.length ≤ 1000) :
    Calls Tryz.prog 48 #[.iface 81 (.pointer (some ⟨q, 0, none⟩))] w fun e w' => (∃ ao c', e = .returned (.tuple #[.slice ao (ends.length * 8 + (encS ts).length) c', .bool true]) ∧ Row w' 5 1 ao (ends.length * 8 + (encS ts).length) c' (ends.flatMap (leV 8) ++ encS ts)) ∧ Upd [] w w' := by
  have hmf : ∀ (fn : Fn) (first cap : Array Value) (w : World), (Instr.makeFunc fn first cap).run Tryz.prog w = .ok (.func fn first cap) w := fun _ _ _ _ => rfl
  obtain ⟨k1, u1, s1⟩ := alloc_facts w (Obj.cells #[.bool false] 4)
  have hC1 := h.kept u1 (by simp)
  go_enter_defers Tryz.func48, Tryz.ntmps48
  go_wp2_with (go_at_call 105; apply stopHere)
  show Calls _ _ _ _ _
  generalize w.alloc (Obj.cells #[.bool false] 4) = W at *
  refine (prepared_A q F ends ts W hC1).mono ?_
  rintro e w2 ⟨rfl, rfl⟩
  dsimp only
  go_wp2_with (first
    | (go_at_call 30; (refine (enc_A q F ends ts _ hC1 h1 hn ht he).mono ?_); rintro e w3 ⟨ao3, c3, rfl, hR3, hU3, hI3⟩; have e1 := hU3.at k1 (by simp); have e0 := cell_of_one e1; have f0 := free_of_one e1))
  have hne : w.heap.size ∉ bk ao3 := fun hx => by
    rcases hI3 _ hx with h | h
    · simp at h
    · omega
  have hR := hR3.setOther hne (Value.bool true)
  have hup := (u1.trans hU3 (fun _ h => .inl h)).setCell (p := ⟨w.heap.size, 0, none⟩) (Value.bool true) (.inr (Nat.le_refl _))
  have hc : (w3.setCell ⟨w.heap.size, 0, none⟩ (Value.bool true)).heap[w.heap.size]? = some (.cells #[.bool true] 4 (0, 0)) := one_setCell e1
  refine leaves_cons (f := 99) (args := #[.pointer (some ⟨w.heap.size, 0, none⟩)]) (by simp) (by simp [go_sem]) ?_
  refine (caught_idle ⟨w.heap.size, 0, none⟩ _).mono ?_
  rintro e u' w'' ⟨rfl, rfl, rfl⟩
  have hcc := cell_of_one hc
  simp [Leaves, settle, results, Tryz.results48, go_sem, hcc]
  exact ⟨⟨ao3, c3, ⟨rfl, rfl⟩, hR⟩, hup⟩
end Go.Proofs.YtpehfhdacgjmpaaGreat
