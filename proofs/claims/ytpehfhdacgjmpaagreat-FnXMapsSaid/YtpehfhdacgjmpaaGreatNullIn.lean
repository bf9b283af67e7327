/- Rows of two cells; what impl.ARNull encodes; the guards over them. -/
import Derived.Test.YtpehfhdacgjmpaaGreatNull
namespace Go.Proofs.YtpehfhdacgjmpaaGreat
open Go Go.RowKit
theorem flat_getS {α : Type} (f : α → List Value) (S : Nat) (hf : ∀ a, (f a).length = S) (l : List α) (k : Nat) (h : k < l.length) (j : Nat) (hj : j < S) : (l.flatMap f)[k * S + j]? = (f l[k])[j]? := by
  induction l generalizing k with
  | nil => simp at h
  | cons r rs ih =>
    simp only [List.flatMap_cons]
    cases k with
    | zero => rw [List.getElem?_append_left (by rw [hf]; omega)]; simp
    | succ k =>
      rw [Nat.succ_mul, List.getElem?_append_right (by rw [hf]; omega)]
      simp only [hf, List.getElem_cons_succ]
      rw [← ih k (by simpa using h)]
      congr 1
      omega
def cells_N (m : Bool × ByteArray) : List Value := [.bool m.1, .string m.2]
def cells_M (m : ByteArray × ByteArray) : List Value := [.string m.1, .string m.2]
theorem cells_N_len (m : Bool × ByteArray) : (cells_N m).length = 2 := rfl
theorem cells_M_len (m : ByteArray × ByteArray) : (cells_M m).length = 2 := rfl
theorem two_N {w wr : World} {b o n : Nat} {G : List Nat} {ms : List (Bool × ByteArray)} {m : Bool × ByteArray} (hrr : w.rangeAt b o (ms.flatMap cells_N)) (hbb : b < w.heap.size) (hU : Upd G w wr) (hG : b ∉ G) (k : Nat) (hk : k < n) (hn : ms.length = n) (hm : m = ms[k]'(by omega)) :
    wr.cell? ⟨b, o + k * 2, none⟩ = some (.bool m.1) ∧ wr.cell? ⟨b, o + k * 2 + 1, none⟩ = some (.string m.2) := by
  have h0 := flat_getS cells_N 2 cells_N_len ms k (by omega) 0 (by omega)
  have h1 := flat_getS cells_N 2 cells_N_len ms k (by omega) 1 (by omega)
  rw [← hm] at h0 h1
  simp only [cells_N, List.getElem?_cons_zero, List.getElem?_cons_succ] at h0 h1
  refine ⟨?_, ?_⟩
  · rw [hU.cell hbb hG]
    exact hrr (k * 2 + 0) _ h0
  · rw [hU.cell hbb hG, Nat.add_assoc]
    exact hrr (k * 2 + 1) _ h1
theorem two_M {w wr : World} {b o n : Nat} {G : List Nat} {ms : List (ByteArray × ByteArray)} {m : ByteArray × ByteArray} (hrr : w.rangeAt b o (ms.flatMap cells_M)) (hbb : b < w.heap.size) (hU : Upd G w wr) (hG : b ∉ G) (k : Nat) (hk : k < n) (hn : ms.length = n) (hm : m = ms[k]'(by omega)) :
    wr.cell? ⟨b, o + k * 2, none⟩ = some (.string m.1) ∧ wr.cell? ⟨b, o + k * 2 + 1, none⟩ = some (.string m.2) := by
  have h0 := flat_getS cells_M 2 cells_M_len ms k (by omega) 0 (by omega)
  have h1 := flat_getS cells_M 2 cells_M_len ms k (by omega) 1 (by omega)
  rw [← hm] at h0 h1
  simp only [cells_M, List.getElem?_cons_zero, List.getElem?_cons_succ] at h0 h1
  refine ⟨?_, ?_⟩
  · rw [hU.cell hbb hG]
    exact hrr (k * 2 + 0) _ h0
  · rw [hU.cell hbb hG, Nat.add_assoc]
    exact hrr (k * 2 + 1) _ h1

theorem Tryz.info85 : (Tryz.prog.info? 85).map (fun i => (i.zero, i.size, i.bytes)) = some (some (.agg #[.bool false, .string ⟨#[]⟩]), 2, 24) := by kernel_rfl
set_option maxRecDepth 100000 in
set_option maxHeartbeats 400000 in
theorem nullable (b : Bool) (s : ByteArray) (w : World) : Calls Tryz.prog 44 #[.agg #[.bool b, .string s]] w fun e w' => e = .returned (.agg #[.bool b, .string s]) ∧ Upd [] w w' := by
  obtain ⟨k1, u1, s1⟩ := alloc_facts w (Obj.cells #[.bool b, .string s] 48)
  obtain ⟨k2, u2, s2⟩ := alloc_facts (w.alloc (Obj.cells #[.bool b, .string s] 48)) (Obj.cells #[.bool b, .string s] 85)
  rw [s1] at k2
  go_enter Tryz.func44, Tryz.ntmps44
  go_wp2
  refine bodyPost_ret (v := .agg #[.bool b, .string s]) (results_cell1 Tryz.results44 (b := w.heap.size + 1) rfl (run_loadVar_mid _ (w.heap.size + 1) 0 85 [.bool b, .string s] _ (rangeAt_blk k2) Tryz.underlying85 rfl (by kernel_rfl))) rfl ⟨rfl, u1.trans u2 (by simp)⟩
set_option maxRecDepth 100000 in
set_option maxHeartbeats 1000000 in
theorem turned_N (ar : Option Addr) (n c : Nat) (ms : List (Bool × ByteArray)) (w : World) (hr : View w 2 ar n (ms.flatMap cells_N)) (hn : n ≤ 1000) :
    Calls Tryz.prog 43 #[.slice ar n c, .func (Fn.func 44) #[] #[]] w fun e w' => (∃ ao c', e = .returned (.slice ao n c') ∧ Row w' 85 2 ao n c' (ms.flatMap cells_N) ∧ In [] w.heap.size ao) ∧ Upd [] w w' := by
  have hml : ms.length = n := by have := hr.len; rw [flatMap_len _ 2 cells_N_len] at this; omega
  go_enter Tryz.func43, Tryz.ntmps43
  go_wp2
  go_loopw [5, 10] (fun s i wr => ∃ (k : Nat) (ao : Option Addr) (c' : Nat), k ≤ n ∧ i = .int .i64 k ∧ s = .slice ao k c' ∧ Row wr 85 2 ao k c' ((ms.take k).flatMap cells_N) ∧ Upd [] w wr ∧ In [] w.heap.size ao)
    (fun _ i _ => n - (intOf i).toNat)
  case atStart => exact ⟨0, none, 0, Nat.zero_le _, rfl, rfl, Row.nil, Upd.refl _ _, In.nil⟩
  case round =>
    obtain ⟨k, ao, c', hk, rfl, rfl, hR, hU, hI⟩ := hrel
    by_cases hlt : k < n
    · have hk0 : ((k : Int) < n) := by omega
      obtain ⟨b, o, rfl, hrr, hbb⟩ := hr.at_ (by omega)
      obtain ⟨m, hm⟩ : ∃ m, m = ms[k]'(by omega) := ⟨_, rfl⟩
      obtain ⟨d0, d1⟩ := two_N hrr hbb hU (by simp) k hlt hml hm
      have hfs := flatMap_take_succ cells_N ms k (by omega)
      rw [← hm] at hfs
      have HF := Lib.hid hfs
      clear hm hfs
      obtain ⟨mb, mt⟩ := m
      simp only at d0 d1
      go_wp2_with (first
        | (go_at_call 44; (refine (nullable mb mt _).mono ?_); rintro e w1 ⟨rfl, hu1⟩)
        | (at_builtin; refine wpList_app1 _ rfl (.tmp 14) (.tmp 18) 92 rfl 85 _ 2 24 Tryz.underlying92 Tryz.info85 rfl (by decide) ((Row.upd hR ((Upd.refl [] wr).alloc _) (by simp)).upd hu1 (by simp)) rfl [.bool mb, .string mt] rfl rfl rfl (by simp [Value.oneCell']) (by decide) (by omega) ?_; intro ao1 c1 w2 hown1 hupd1 hin1))
      have hUa : Upd [] w w1 := (hU.alloc _).trans hu1 (by simp)
      have hUx : Upd [] w w2 := hUa.trans hupd1 (fun y hy => (hI y hy).elim (fun h => by simp at h) .inr)
      have hIx : In [] w.heap.size ao1 := hI.step hin1 hUa.size
      have hRx : Row w2 85 2 ao1 (k + 1) c1 ((ms.take (k + 1)).flatMap cells_N) := by
        rw [HF.out]
        exact hown1
      clear hown1 hupd1 hin1 hR hUa hu1 hU hI
      go_roundw
      case rel => exact ⟨k + 1, ao1, c1, by omega, by go_num, rfl, hRx, hUx, hIx⟩
      case measure => simp [intOf]; omega
    · have hk0 : n ≤ k := by omega
      obtain rfl : k = n := by omega
      rw [List.take_of_length_le (by omega)] at hR
      go_wp2
      go_ret
      exact ⟨⟨ao, c', rfl, hR, hI⟩, hU⟩
/-- what a nullable column has of rows -/
def nulls_of (ms : List (Bool × ByteArray)) : List Value := ms.map fun m => nullB m.1
def texts_of (ms : List (Bool × ByteArray)) : List (List Value) := ms.map fun m => byteCells m.2
theorem texts_tot (ms : List (Bool × ByteArray)) (m : Nat) (h : ∀ s ∈ ms, s.2.size ≤ m) : tot (texts_of ms) ≤ ms.length * m := by
  have := tot_le (ms.map (·.2)) m (fun s hs => by obtain ⟨x, hx, rfl⟩ := List.mem_map.1 hs; exact h x hx)
  simpa [texts_of, Function.comp_def] using this
theorem texts_short (ms : List (Bool × ByteArray)) (h : ∀ s ∈ ms, s.2.size ≤ 60) : Short (texts_of ms) := fun t ht => by
  obtain ⟨s, hs, rfl⟩ := List.mem_map.1 ht
  have h1 := h s hs
  exact ⟨by rw [byteCells_len]; omega, (byteCells_all s.2).one⟩
theorem nulls_one (ms : List (Bool × ByteArray)) : ∀ u ∈ nulls_of ms, u.oneCell' = true := fun u hu => by
  obtain ⟨s, _, rfl⟩ := List.mem_map.1 hu
  rfl
set_option maxRecDepth 100000 in
set_option maxHeartbeats 1000000 in
theorem encodesOf_N (q : Nat) (F : List Nat) (ar : Option Addr) (n c : Nat) (ms : List (Bool × ByteArray)) (w : World) (h : NullCol w q F [] []) (hr : View w 2 ar n (ms.flatMap cells_N)) (hn : n ≤ 100) (hs : ∀ s ∈ ms, s.2.size ≤ 60) (hF : 0 < n → ∀ x, x ∈ bk ar → x ∉ F) :
    Calls Tryz.prog 41 #[.iface 86 (.pointer (some ⟨q, 0, none⟩)), .slice ar n c] w fun e w' => (∃ ao c', e = .returned (.tuple #[.slice ao (n + (encS (texts_of ms)).length) c', .bool true]) ∧ Row w' 5 1 ao (n + (encS (texts_of ms)).length) c' (nulls_of ms ++ encS (texts_of ms))) ∧ Upd F w w' := by
  have hml : ms.length = n := by have := hr.len; rw [flatMap_len _ 2 cells_N_len] at this; omega
  obtain ⟨N, hN⟩ : ∃ N, N = n + (encS (texts_of ms)).length := ⟨_, rfl⟩
  rw [← hN]
  have HN := Lib.hid hN
  clear hN
  go_enter Tryz.func41, Tryz.ntmps41
  go_wp2
  have hm := methAp_N q
  go_loopw [10] (fun i wr => ∃ (k : Nat) (F' : List Nat), k ≤ n ∧ i = .int .i64 k ∧ NullCol wr q F' (nulls_of (ms.take k)) (texts_of (ms.take k)) ∧ Upd F w wr ∧ Grows w.heap.size F F')
    (fun i _ => n - (intOf i).toNat)
  case atStart => exact ⟨0, F, Nat.zero_le _, rfl, by simpa [nulls_of, texts_of] using h, Upd.refl _ _, fun x hx => .inl hx⟩
  case round =>
    obtain ⟨k, F', hk, rfl, hC, hU, hG⟩ := hrel
    have b1 : (texts_of (ms.take k)).length ≤ 100 := by simp only [texts_of, List.length_map, List.length_take]; omega
    have b3 : (nulls_of (ms.take k)).length ≤ 100 := by simp only [nulls_of, List.length_map, List.length_take]; omega
    have b2 : tot (texts_of (ms.take k)) ≤ 6000 := by
      have h1 := texts_tot (ms.take k) 60 (fun s h => hs s (List.mem_of_mem_take h))
      have h2 : (ms.take k).length ≤ 100 := by rw [List.length_take]; omega
      have h3 := Nat.mul_le_mul_right 60 h2
      omega
    by_cases hlt : k < n
    · have hk0 : ((k : Int) < n) := by omega
      obtain ⟨b, o, rfl, hrr, hbb⟩ := hr.at_ (by omega)
      have hbF : b ∉ F := hF (by omega) b (by simp)
      obtain ⟨m, hmm⟩ : ∃ m, m = ms[k]'(by omega) := ⟨_, rfl⟩
      obtain ⟨d0, d1⟩ := two_N hrr hbb hU hbF k hlt hml hmm
      have hsm : m.2.size ≤ 60 := hs m (by rw [hmm]; exact List.getElem_mem _)
      have e1 : nulls_of (ms.take (k + 1)) = nulls_of (ms.take k) ++ [nullB m.1] := by rw [List.take_succ_eq_append_getElem (by omega), ← hmm]; simp [nulls_of]
      have e2 : texts_of (ms.take (k + 1)) = texts_of (ms.take k) ++ [byteCells m.2] := by rw [List.take_succ_eq_append_getElem (by omega), ← hmm]; simp [texts_of]
      have E1 := Lib.hid e1
      have E2 := Lib.hid e2
      have HB := Lib.hid b1
      have HB2 := Lib.hid b2
      have HB3 := Lib.hid b3
      clear hmm e1 e2 b1 b2 b3
      obtain ⟨mb, mt⟩ := m
      simp only at d0 d1 hsm
      go_wp2_with (go_at_call 172; (with_reducible refine (ColNull_Append q F' _ _ mb mt _ (hC.kept ((Upd.refl [] wr).alloc _) (by simp)) (by have := HB.out; omega) (by have := HB2.out; omega) (by omega) (by have := HB3.out; omega)).mono ?_); rintro e w2 ⟨rfl, F2, hC2, hU2, hG2⟩)
      have hU2' : Upd F' wr w2 := hU2.ofAlloc
      have hUx : Upd F w w2 := hU.trans hU2' hG
      have hGx : Grows w.heap.size F F2 := fun x hx => (hG2 x hx).elim (hG x) (fun h => .inr (by have := hU.size; simp at h; omega))
      have hCx : NullCol w2 q F2 (nulls_of (ms.take (k + 1))) (texts_of (ms.take (k + 1))) := by
        rw [E1.out, E2.out]
        exact hC2
      clear hC2 hU2 hU2' hG2 hC hU hG
      go_roundw
      case rel => exact ⟨k + 1, F2, by omega, by go_num, hCx, hUx, hGx⟩
      case measure => simp [intOf]; omega
    · have hk0 : n ≤ k := by omega
      obtain rfl : k = n := by omega
      rw [List.take_of_length_le (by omega)] at hC b1 b2 b3
      have hE := encodes_N q F' _ _ wr hC (nulls_one ms) (texts_short ms hs) (by omega) (by omega) (by omega)
      have hnl : (nulls_of ms).length = k := by simp [nulls_of, hml]
      rw [hnl, ← HN.out] at hE
      clear b1 b2 b3
      go_wp2_with (go_at_call 48; (refine hE.mono ?_); rintro e w3 ⟨⟨ao3, c3, rfl, hR3⟩, hU3⟩)
      refine bodyPost_ret (results_tmp2 Tryz.results41 _ _ _) rfl ⟨⟨ao3, c3, rfl, hR3⟩, hU.trans hU3 (by simp)⟩

set_option maxRecDepth 100000 in
set_option maxHeartbeats 400000 in
theorem Nullable_new (p : Nat) (w : World) : Calls Tryz.prog 42 #[.pointer (some ⟨p, 0, none⟩)] w fun e w' => e = .returned (.pointer (some ⟨w.heap.size, 0, none⟩)) ∧ w' = w.alloc (.cells #[.slice none 0 0, .iface 87 (.pointer (some ⟨p, 0, none⟩))] 319) := by
  go_enter Tryz.func42, Tryz.ntmps42
  go_wp2
  go_ret
  exact ⟨rfl, rfl⟩
theorem NullCol.new (w : World) : NullCol ((w.alloc (.cells #[.slice none 0 0, .slice none 0 0] 90)).alloc (.cells #[.slice none 0 0, .iface 87 (.pointer (some ⟨w.heap.size, 0, none⟩))] 319)) (w.heap.size + 1) [w.heap.size, w.heap.size + 1] [] [] := by
  have hC := StrCol.new w
  obtain ⟨k1, u1, s1⟩ := alloc_facts w (Obj.cells #[.slice none 0 0, .slice none 0 0] 90)
  obtain ⟨k2, u2, s2⟩ := alloc_facts (w.alloc (Obj.cells #[.slice none 0 0, .slice none 0 0] 90)) (Obj.cells #[.slice none 0 0, .iface 87 (.pointer (some ⟨w.heap.size, 0, none⟩))] 319)
  rw [s1] at k2 s2
  refine ⟨none, 0, w.heap.size, [w.heap.size], ⟨k2, Row.nil, by simp⟩, hC.kept u2 (by simp), by simp, by simp, by simp, by simp, by simp, ?_⟩
  intro x hx
  simp at hx
  rw [s2]; omega
set_option maxRecDepth 100000 in
set_option maxHeartbeats 1000000 in
theorem ARNull (ar : Option Addr) (n c : Nat) (ms : List (Bool × ByteArray)) (w : World) (hr : View w 2 ar n (ms.flatMap cells_N)) (hn : n ≤ 100) (hs : ∀ s ∈ ms, s.2.size ≤ 60) :
    Calls Tryz.prog 22 #[.slice ar n c] w fun e w' => (∃ ao c', e = .returned (.tuple #[.slice ao (n + (encS (texts_of ms)).length) c', .bool true]) ∧ Row w' 5 1 ao (n + (encS (texts_of ms)).length) c' (nulls_of ms ++ encS (texts_of ms))) ∧ Upd [] w w' := by
  have hC0 := NullCol.new w
  have u2 : Upd [] w ((w.alloc (.cells #[.slice none 0 0, .slice none 0 0] 90)).alloc (.cells #[.slice none 0 0, .iface 87 (.pointer (some ⟨w.heap.size, 0, none⟩))] 319)) := ((Upd.refl [] w).alloc _).alloc _
  have s2 : ((w.alloc (.cells #[.slice none 0 0, .slice none 0 0] 90)).alloc (.cells #[.slice none 0 0, .iface 87 (.pointer (some ⟨w.heap.size, 0, none⟩))] 319)).heap.size = w.heap.size + 2 := by simp
  obtain ⟨N, hN⟩ : ∃ N, N = n + (encS (texts_of ms)).length := ⟨_, rfl⟩
  have hE := fun (q : Nat) (F : List Nat) (ar : Option Addr) (c : Nat) (w : World) (h) (hr) (hF) => encodesOf_N q F ar n c ms w h hr hn hs hF
  rw [← hN] at hE ⊢
  clear hN
  go_enter Tryz.func22, Tryz.ntmps22
  go_wp2_with (go_at_call 42; apply stopHere)
  show Calls _ _ _ _ _
  refine (Nullable_new w.heap.size _).mono ?_
  rintro e w1 ⟨rfl, rfl⟩
  dsimp only
  generalize ((w.alloc (.cells #[.slice none 0 0, .slice none 0 0] 90)).alloc (.cells #[.slice none 0 0, .iface 87 (.pointer (some ⟨w.heap.size, 0, none⟩))] 319)) = W at *
  go_wp2_with (first
    | (go_at_call 43; (refine (turned_N ar n c ms _ (hr.upd u2 (by simp)) (by omega)).mono ?_); rintro e w3 ⟨⟨a3, c3, rfl, hR3, hi3⟩, hu3⟩)
    | (go_at_call 41; (refine (hE _ _ a3 c3 _ (hC0.kept hu3 (by simp)) hR3.toView (fun h0 x hx hx' => (hi3 x hx).elim (fun h => by simp at h) (fun h => by simp at hx'; omega))).mono ?_); rintro e w4 ⟨⟨ao4, c4, rfl, hR4⟩, hu4⟩))
  refine bodyPost_ret (results_tmp2 Tryz.results22 _ _ _) rfl ⟨⟨ao4, c4, rfl, hR4⟩, (u2.trans hu3 (by simp)).trans hu4 (fun y hy => .inr (by simp at hy; omega))⟩

/-! ### the guards -/
set_option maxRecDepth 100000 in
set_option maxHeartbeats 400000 in
theorem zzFits6 (b : Bool) (s : ByteArray) (w : World) : Calls Tryz.prog 39 #[.agg #[.bool b, .string s]] w fun e w' => (∃ b, e = .returned (.bool b)) ∧ Upd [] w w' := by
  go_enter Tryz.func39, Tryz.ntmps39
  by_cases hb : 2147483647 < s.size
  · have hb' : ((2147483647 : Int) < s.size) := by omega
    go_wp2
    go_ret
    exact ⟨by first | exact ⟨_, rfl⟩ | exact .inl rfl | exact .inr rfl, (Upd.refl _ _).alloc _⟩
  · have hb' : ¬ ((2147483647 : Int) < s.size) := by omega
    go_wp2
    go_ret
    exact ⟨by first | exact ⟨_, rfl⟩ | exact .inl rfl | exact .inr rfl, (Upd.refl _ _).alloc _⟩
set_option maxRecDepth 100000 in
set_option maxHeartbeats 1000000 in
theorem zzFits5 (ar : Option Addr) (n c : Nat) (ms : List (Bool × ByteArray)) (w : World) (hr : View w 2 ar n (ms.flatMap cells_N)) :
    Calls Tryz.prog 19 #[.slice ar n c] w fun e w' => (∃ b, e = .returned (.bool b)) ∧ Upd [] w w' := by
  have hml : ms.length = n := by have := hr.len; rw [flatMap_len _ 2 cells_N_len] at this; omega
  go_enter Tryz.func19, Tryz.ntmps19
  by_cases hb : 2147483647 < n
  · have hb' : ((2147483647 : Int) < n) := by omega
    go_wp2
    go_ret
    exact ⟨⟨_, rfl⟩, Upd.refl _ _⟩
  · have hb' : ¬ ((2147483647 : Int) < n) := by omega
    go_wp2
    go_loopw [10] (fun i wr => ∃ k : Nat, k ≤ n ∧ i = .int .i64 k ∧ Upd [] w wr)
      (fun i _ => n - (intOf i).toNat)
    case atStart => exact ⟨0, Nat.zero_le _, rfl, Upd.refl _ _⟩
    case round =>
      obtain ⟨k, hk, rfl, hU⟩ := hrel
      by_cases hlt : k < n
      · have hk0 : ((k : Int) < n) := by omega
        obtain ⟨b, o, rfl, hrr, hbb⟩ := hr.at_ (by omega)
        obtain ⟨m, hm⟩ : ∃ m, m = ms[k]'(by omega) := ⟨_, rfl⟩
        obtain ⟨d0, d1⟩ := two_N hrr hbb hU (by simp) k hlt hml hm
        clear hm
        obtain ⟨mb, mt⟩ := m
        simp only at d0 d1
        go_wp2_with (go_at_call 39; (refine (zzFits6 mb mt _).mono ?_); rintro e w2 ⟨⟨bb, rfl⟩, hu2⟩; have hU2 := (hU.alloc _).trans hu2 (by simp); cases bb)
        · go_ret
          exact ⟨⟨_, rfl⟩, hU2⟩
        · go_roundw
          case rel => exact ⟨k + 1, by omega, by go_num, hU2⟩
          case measure => simp [intOf]; omega
      · have hk0 : n ≤ k := by omega
        obtain rfl : k = n := by omega
        go_wp2
        go_ret
        exact ⟨⟨_, rfl⟩, hU⟩
set_option maxRecDepth 100000 in
set_option maxHeartbeats 400000 in
theorem over60N (b : Bool) (s : ByteArray) (w : World) : Calls Tryz.prog 21 #[.agg #[.bool b, .string s]] w fun e w' => e = .returned (.bool (decide ((60 : Int) < s.size))) ∧ Upd [] w w' := by
  go_enter Tryz.func21, Tryz.ntmps21
  go_wp2
  go_ret
  exact ⟨rfl, (Upd.refl _ _).alloc _⟩
set_option maxRecDepth 100000 in
set_option maxHeartbeats 1000000 in
theorem IndexFuncN (ar : Option Addr) (n c : Nat) (ms : List (Bool × ByteArray)) (w : World) (hv : View w 2 ar n (ms.flatMap cells_N)) (hn : n ≤ 100) :
    Calls Tryz.prog 40 #[.slice ar n c, .func (Fn.func 21) #[] #[]] w fun e w' => (∃ i : Int, e = .returned (.int .i64 i) ∧ (i < 0 → ∀ s ∈ ms, s.2.size ≤ 60)) ∧ Upd [] w w' := by
  have hml : ms.length = n := by have := hv.len; rw [flatMap_len _ 2 cells_N_len] at this; omega
  go_enter Tryz.func40, Tryz.ntmps40
  go_wp2
  go_loopw [8] (fun i wr => ∃ k : Nat, k ≤ n ∧ i = .int .i64 k ∧ Upd [] w wr ∧ ∀ s ∈ ms.take k, s.2.size ≤ 60)
    (fun i _ => n - (intOf i).toNat)
  case atStart => exact ⟨0, Nat.zero_le _, rfl, Upd.refl _ _, by simp⟩
  case round =>
    obtain ⟨k, hk, rfl, hU, hall⟩ := hrel
    by_cases hlt : k < n
    · have hk0 : ((k : Int) < n) := by omega
      obtain ⟨b, o, rfl, hrr, hbb⟩ := hv.at_ (by omega)
      obtain ⟨m, hx⟩ : ∃ m, m = ms[k]'(by omega) := ⟨_, rfl⟩
      obtain ⟨d0, d1⟩ := two_N hrr hbb hU (by simp) k hlt hml hx
      have hstep : m.2.size ≤ 60 → ∀ s ∈ ms.take (k + 1), s.2.size ≤ 60 := fun h0 s' hs' => by
        rw [List.take_succ_eq_append_getElem (by omega)] at hs'
        rcases List.mem_append.1 hs' with h | h
        · exact hall s' h
        · simp at h; subst h; rw [← hx]; exact h0
      have HA := Lib.hid hstep
      clear hx hall hstep
      obtain ⟨mb, mt⟩ := m
      simp only at d0 d1
      by_cases hs : 60 < mt.size
      · have hs' : decide ((60 : Int) < mt.size) = true := by simp; omega
        go_wp2_with (go_at_call 21; (refine (over60N mb mt _).mono ?_); rintro e w2 ⟨rfl, hu2⟩; rw [hs'])
        go_ret
        exact ⟨⟨_, rfl, fun h => by omega⟩, hU.trans hu2 (by simp)⟩
      · have hs' : decide ((60 : Int) < mt.size) = false := by simp; omega
        go_wp2_with (go_at_call 21; (refine (over60N mb mt _).mono ?_); rintro e w2 ⟨rfl, hu2⟩; rw [hs'])
        have hA := HA.out (by show mt.size ≤ 60; omega)
        have hU2 := hU.trans hu2 (by simp)
        go_roundw
        case rel => exact ⟨k + 1, by omega, by go_num, hU2, hA⟩
        case measure => simp [intOf]; omega
    · have hk0 : n ≤ k := by omega
      obtain rfl : k = n := by omega
      rw [List.take_of_length_le (by omega)] at hall
      have HA := Lib.hid hall
      clear hall
      go_wp2
      go_ret
      exact ⟨⟨_, rfl, fun _ => HA.out⟩, hU⟩
set_option maxRecDepth 100000 in
set_option maxHeartbeats 400000 in
theorem ContainsN (ar : Option Addr) (n c : Nat) (ms : List (Bool × ByteArray)) (w : World) (hv : View w 2 ar n (ms.flatMap cells_N)) (hn : n ≤ 100) :
    Calls Tryz.prog 20 #[.slice ar n c, .func (Fn.func 21) #[] #[]] w fun e w' => (∃ b, e = .returned (.bool b) ∧ (b = false → ∀ s ∈ ms, s.2.size ≤ 60)) ∧ Upd [] w w' := by
  go_enter Tryz.func20, Tryz.ntmps20
  go_wp2_with (go_at_call 40; (refine (IndexFuncN ar n c ms _ hv hn).mono ?_); rintro e w2 ⟨⟨i, rfl, hi⟩, hu2⟩; have HI := Lib.hid hi; clear hi)
  go_ret
  exact ⟨⟨_, rfl, fun h => HI.out (by simpa using h)⟩, hu2⟩
end Go.Proofs.YtpehfhdacgjmpaaGreat
