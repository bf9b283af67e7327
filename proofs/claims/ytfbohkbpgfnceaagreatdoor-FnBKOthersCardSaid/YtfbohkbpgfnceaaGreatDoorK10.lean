/- Columns of floats: Append, EncodeColumn, DecodeColumn. -/
import Derived.Test.YtfbohkbpgfnceaaGreatDoorMB
namespace Go.Proofs.YtfbohkbpgfnceaaGreatDoor
set_option linter.unusedVariables false
set_option linter.unusedSimpArgs false
open Go Go.RowKit
theorem f32of (n : Int) (W : World) : (callFunc 108 #[.int .u32 n]).run Tryz.prog W = .ok (.value (.float .f32 n.toNat)) W := by kernel_rfl
theorem u32of (n : Nat) (W : World) : (callFunc 109 #[.float .f32 n]).run Tryz.prog W = .ok (.value (.int .u32 n)) W := by kernel_rfl
theorem f64of (n : Int) (W : World) : (callFunc 82 #[.int .u64 n]).run Tryz.prog W = .ok (.value (.float .f64 n.toNat)) W := by kernel_rfl
theorem u64of (n : Nat) (W : World) : (callFunc 84 #[.float .f64 n]).run Tryz.prog W = .ok (.value (.int .u64 n)) W := by kernel_rfl
theorem Tryz.info349 : (Tryz.prog.info? 349).map (fun i => (i.zero, i.size, i.bytes)) = some (some (.float .f32 0), 1, 4) := by kernel_rfl
theorem Tryz.info263 : (Tryz.prog.info? 263).map (fun i => (i.zero, i.size, i.bytes)) = some (some (.float .f64 0), 1, 8) := by kernel_rfl
set_option maxRecDepth 100000 in
set_option maxHeartbeats 400000 in
theorem ColFloat32_Append (p : Nat) (ao : Option Addr) (n c : Nat) (xs : List Value) (x : Nat) (w : World) (h : Hold w p 253 349 1 ao n c xs) (hn : n ≤ 1000000) :
    Calls Tryz.prog 341 #[.pointer (some ⟨p, 0, none⟩), Value.float .f32 x] w fun e w' => e = .returned (.tuple #[]) ∧ Grew w w' p 253 349 1 ao (n + 1) (xs ++ [Value.float .f32 x]) := by
  have hc := h.cell
  go_enter Tryz.func341, Tryz.ntmps341
  go_wp2_with (at_builtin; refine wpList_app1 _ rfl _ _ 253 rfl 349 (.float .f32 0) 1 4 Tryz.underlying253 Tryz.info349 rfl (by decide) h.own rfl [Value.float .f32 x] rfl rfl rfl (by simp [Value.oneCell']) (by decide) (by omega) ?_; intro ao1 c1 w1 hown1 hupd1 hin1; have hc1 := h.cell1 hupd1; have hf1 := h.free1 hupd1)
  go_end0
  exact ⟨rfl, _, _, h.after hown1 hupd1 hin1, h.upd hupd1 _, hin1⟩
set_option maxRecDepth 100000 in
set_option maxHeartbeats 400000 in
theorem ColFloat64_Append (p : Nat) (ao : Option Addr) (n c : Nat) (xs : List Value) (x : Nat) (w : World) (h : Hold w p 262 263 1 ao n c xs) (hn : n ≤ 1000000) :
    Calls Tryz.prog 352 #[.pointer (some ⟨p, 0, none⟩), Value.float .f64 x] w fun e w' => e = .returned (.tuple #[]) ∧ Grew w w' p 262 263 1 ao (n + 1) (xs ++ [Value.float .f64 x]) := by
  have hc := h.cell
  go_enter Tryz.func352, Tryz.ntmps352
  go_wp2_with (at_builtin; refine wpList_app1 _ rfl _ _ 262 rfl 263 (.float .f64 0) 1 8 Tryz.underlying262 Tryz.info263 rfl (by decide) h.own rfl [Value.float .f64 x] rfl rfl rfl (by simp [Value.oneCell']) (by decide) (by omega) ?_; intro ao1 c1 w1 hown1 hupd1 hin1; have hc1 := h.cell1 hupd1; have hf1 := h.free1 hupd1)
  go_end0
  exact ⟨rfl, _, _, h.after hown1 hupd1 hin1, h.upd hupd1 _, hin1⟩
set_option maxRecDepth 100000 in
set_option maxHeartbeats 1000000 in
theorem ColFloat32_EncodeColumn (ac : Option Addr) (n cc : Nat) (vs : List Nat) (bp : Nat) (ao : Option Addr) (m cp : Nat) (bs : List Value) (w : World) (hc : View w 1 ac n (vs.map (Value.float .f32))) (hb : Hold w bp 46 5 1 ao m cp bs)
    (hap : Apart ac bp ao) (hac : ∀ x, x ∈ bk ac → x < w.heap.size) (hn : n ≤ 1000000) (hm : m ≤ 100000000) :
    Calls Tryz.prog 343 #[.slice ac n cc, .pointer (some ⟨bp, 0, none⟩)] w fun e w' => e = .returned (.tuple #[]) ∧ Grew w w' bp 46 5 1 ao (m + n * 4) (bs ++ vs.flatMap (fun x : Nat => leV 4 (x : Int))) := by
  have hvl : vs.length = n := by have := hc.len; simpa using this
  have hbl := hb.own.len
  by_cases h0 : n = 0
  · subst h0
    have hv0 : vs = [] := List.eq_nil_of_length_eq_zero hvl
    subst hv0
    go_enter Tryz.func343, Tryz.ntmps343
    go_wp2
    refine bodyPost_ret (results_none rfl _ _ _) rfl ?_
    exact ⟨rfl, ao, cp, by simpa using hb, Upd.refl _ _, In.self (fun _ h => h)⟩
  · have h1 : ((n : Int) == 0) = false := beq_eq_false_iff_ne.2 (by omega)
    have hc0 := hb.cell
    have hbits := u32of
    go_enter Tryz.func343, Tryz.ntmps343
    go_wp2_with (at_builtin; refine wpList_zeros _ rfl _ _ 26 3 rfl 5 (.int .u8 0) 1 1 .i64 Tryz.underlying26 Tryz.underlying3 Tryz.info5 rfl (by decide) (by simp [Value.cells, Value.oneCell']) hb.own rfl (4 * n) (by omega) rfl (by omega) (by decide) (by omega) ?_; intro ao1 c1 w1 hown1 hupd1 hin1; have hc1 := hb.cell1 hupd1; have hf1 := hb.free1 hupd1)
    have hH1 := hb.after hown1 hupd1 hin1
    have hU1 := hb.upd hupd1 (.slice ao1 (m + 4 * n) c1)
    clear hown1 hupd1 hc1 hf1
    generalize w1.setCell ⟨bp, 0, none⟩ (.slice ao1 (m + 4 * n) c1) = w2 at *
    obtain ⟨g, rfl⟩ := hH1.own.head (by omega)
    go_loopw [5, 30] (fun off i wr => ∃ k : Nat, k ≤ n ∧ i = .int .i64 k ∧ off = .int .i64 (m + 4 * k : Nat) ∧ Hold wr bp 46 5 1 (some ⟨g, 0, none⟩) (m + 4 * n) c1 (bs ++ (vs.take k).flatMap (fun x : Nat => leV 4 (x : Int)) ++ List.replicate (4 * (n - k)) (.int .u8 0)) ∧ Upd (bp :: bk ao) w wr)
      (fun _ i _ => n - (intOf i).toNat)
    case atStart => exact ⟨0, Nat.zero_le _, rfl, rfl, by rw [show (Value.int .u8 0).cells = #[Value.int .u8 0] from rfl, zeroCells1] at hH1; simpa using hH1, hU1⟩
    case round =>
      obtain ⟨k, hk, rfl, rfl, hH, hU⟩ := hrel
      by_cases hlt : k < n
      · have hk0 : ((k : Int) < n) := by omega
        obtain ⟨b, o, rfl, hr, hbb⟩ := hc.at_ (by omega)
        have hbn : b ∉ bp :: bk ao := hap.not b (by simp)
        have hcell : wr.cell? ⟨b, o + k, none⟩ = some (Value.float .f32 (vs[k]'(by omega))) := (hU.cell hbb hbn).trans (hr k _ (by simp [hvl, hlt]))
        have hcb := hH.cell
        have hcap : m + 4 * k + 4 ≤ c1 := by have := hH.own.cap; omega
        obtain ⟨x, hx⟩ : ∃ x, x = vs[k]'(by omega) := ⟨_, rfl⟩
        rw [← hx] at hcell
        have HX := Lib.hid hx
        clear hx
        go_wp2
        have hwr : IntKind.i64.wrap ((m : Int) + 4 * k + 4) = m + 4 * k + 4 := IntWalk.i64_in _ (by omega)
        refine wp_region_split (S := Upd [] wr) [(true, 0), (true, 1), (true, 2), (true, 3), (true, 4), (true, 5), (true, 6), (true, 7), (true, 8), (true, 9)] [10] [11] (by kernel_rfl) (by kernel_rfl) (fun _ _ d _ _ h => by cases d <;> exact h) ((Upd.refl _ _).drew) ?_
        simp only [readsAt, opersAt, Option.map_some, List.filterMap_cons, List.filterMap_nil, List.getElem?_toArray, List.getElem?_cons_succ, List.getElem?_cons_zero]
        iterate 8 (refine ⟨_, Or.inl ⟨by rfl, fun w' hS => by first | (have q1 := Upd.cell1 hS hcb (by simp); first | (go_simp; done) | (go_simp; with_reducible rfl)) | (go_simp; done) | (go_simp; with_reducible rfl)⟩, ?_⟩; simp only [Act.put, List.setIfInBounds_toArray, List.set_cons_zero, List.set_cons_succ])
        refine ⟨_, yields_slice rfl 26 5 1 _ _ _ rfl Tryz.underlying26 (by kernel_rfl) g 0 _ _ rfl _ _ (m + 4 * k) (m + 4 * k + 4) rfl rfl (by omega) (by omega) (by omega) hcap (by omega) (m + 4 * k) 4 (c1 - (m + 4 * k)) (by omega) (by omega) rfl, ?_⟩
        simp only [Act.put, List.setIfInBounds_toArray, List.set_cons_zero, List.set_cons_succ]
        refine ⟨_, Or.inl ⟨by rfl, fun w' hS => by first | (go_simp; done) | (go_simp; with_reducible rfl)⟩, ?_⟩
        simp only [Act.put, List.setIfInBounds_toArray, List.set_cons_zero, List.set_cons_succ]
        intro L0 hL0
        rw [if_pos (by rfl)]
        go_simp
        refine hL0 _ _ ⟨(Upd.refl [] wr).drew, ?_⟩
        clear hL0 L0
        try simp only [preThen]
        change wpList _ _ _ [_] _ _
        clear hwr
        go_wp2_with (go_at_call 110; (with_reducible refine (PutUint32 g (m + 4 * k) 4 _ (m + 4 * n) c1 _ _ _ (World.ownsRow.drew hH.own) ?_ (by omega)).mono ?_); (· have := Nat.mul_le_mul_left 4 (show k + 1 ≤ n by omega); omega); rintro e wx ⟨rfl, hrow, hux⟩)
        have hstep : putAt (bs ++ (vs.take k).flatMap (fun x : Nat => leV 4 (x : Int)) ++ List.replicate (4 * (n - k)) (.int .u8 0)) (m + 4 * k) (leV 4 x) = bs ++ (vs.take (k + 1)).flatMap (fun x : Nat => leV 4 (x : Int)) ++ List.replicate (4 * (n - (k + 1))) (.int .u8 0) := by
          rw [flatMap_take_succ _ _ _ (by omega), ← HX.out]
          refine enc_step (r := 4 * (n - (k + 1))) (m := 4) ?_ (leV_len _ _) ?_
          · congr 1; have : n - k = (n - (k + 1)) + 1 := by omega
            rw [this]; omega
          · rw [List.length_append, flatMap_len _ 4 (fun x : Nat => leV_len 4 (x : Int)), List.length_take]; omega
        rw [hstep] at hrow
        have hux' : Upd [g] wr wx := hux.ofDrew
        have hH' : Hold wx bp 46 5 1 (some ⟨g, 0, none⟩) (m + 4 * n) c1 (bs ++ (vs.take (k + 1)).flatMap (fun x : Nat => leV 4 (x : Int)) ++ List.replicate (4 * (n - (k + 1))) (.int .u8 0)) := ⟨hux'.at hH.blk (fun h => hH.ne (by simpa using h)), hrow, hH.ne⟩
        have hU' : Upd (bp :: bk ao) w wx := hU.trans hux' (fun y hy => by
          simp at hy; subst hy
          rcases hin1 y (by simp) with h | h
          · exact .inl (List.mem_cons_of_mem _ h)
          · exact .inr h)
        clear hstep hrow hux hux' hH hU
        go_roundw
        case rel => exact ⟨k + 1, by omega, by go_num, by simp; omega, hH', hU'⟩
        case measure => simp [intOf]; omega
      · have hk0 : n ≤ k := by omega
        obtain rfl : k = n := by omega
        go_wp2
        go_end0
        refine ⟨rfl, some ⟨g, 0, none⟩, c1, ?_, hU, hin1⟩
        rw [List.take_of_length_le (by omega), Nat.sub_self, Nat.mul_zero, List.replicate_zero, List.append_nil] at hH
        rw [Nat.mul_comm k 4]
        exact hH
set_option maxRecDepth 100000 in
set_option maxHeartbeats 1000000 in
theorem ColFloat64_EncodeColumn (ac : Option Addr) (n cc : Nat) (vs : List Nat) (bp : Nat) (ao : Option Addr) (m cp : Nat) (bs : List Value) (w : World) (hc : View w 1 ac n (vs.map (Value.float .f64))) (hb : Hold w bp 46 5 1 ao m cp bs)
    (hap : Apart ac bp ao) (hac : ∀ x, x ∈ bk ac → x < w.heap.size) (hn : n ≤ 1000000) (hm : m ≤ 100000000) :
    Calls Tryz.prog 354 #[.slice ac n cc, .pointer (some ⟨bp, 0, none⟩)] w fun e w' => e = .returned (.tuple #[]) ∧ Grew w w' bp 46 5 1 ao (m + n * 8) (bs ++ vs.flatMap (fun x : Nat => leV 8 (x : Int))) := by
  have hvl : vs.length = n := by have := hc.len; simpa using this
  have hbl := hb.own.len
  by_cases h0 : n = 0
  · subst h0
    have hv0 : vs = [] := List.eq_nil_of_length_eq_zero hvl
    subst hv0
    go_enter Tryz.func354, Tryz.ntmps354
    go_wp2
    refine bodyPost_ret (results_none rfl _ _ _) rfl ?_
    exact ⟨rfl, ao, cp, by simpa using hb, Upd.refl _ _, In.self (fun _ h => h)⟩
  · have h1 : ((n : Int) == 0) = false := beq_eq_false_iff_ne.2 (by omega)
    have hc0 := hb.cell
    have hbits := u64of
    go_enter Tryz.func354, Tryz.ntmps354
    go_wp2_with (at_builtin; refine wpList_zeros _ rfl _ _ 26 3 rfl 5 (.int .u8 0) 1 1 .i64 Tryz.underlying26 Tryz.underlying3 Tryz.info5 rfl (by decide) (by simp [Value.cells, Value.oneCell']) hb.own rfl (8 * n) (by omega) rfl (by omega) (by decide) (by omega) ?_; intro ao1 c1 w1 hown1 hupd1 hin1; have hc1 := hb.cell1 hupd1; have hf1 := hb.free1 hupd1)
    have hH1 := hb.after hown1 hupd1 hin1
    have hU1 := hb.upd hupd1 (.slice ao1 (m + 8 * n) c1)
    clear hown1 hupd1 hc1 hf1
    generalize w1.setCell ⟨bp, 0, none⟩ (.slice ao1 (m + 8 * n) c1) = w2 at *
    obtain ⟨g, rfl⟩ := hH1.own.head (by omega)
    go_loopw [5, 30] (fun off i wr => ∃ k : Nat, k ≤ n ∧ i = .int .i64 k ∧ off = .int .i64 (m + 8 * k : Nat) ∧ Hold wr bp 46 5 1 (some ⟨g, 0, none⟩) (m + 8 * n) c1 (bs ++ (vs.take k).flatMap (fun x : Nat => leV 8 (x : Int)) ++ List.replicate (8 * (n - k)) (.int .u8 0)) ∧ Upd (bp :: bk ao) w wr)
      (fun _ i _ => n - (intOf i).toNat)
    case atStart => exact ⟨0, Nat.zero_le _, rfl, rfl, by rw [show (Value.int .u8 0).cells = #[Value.int .u8 0] from rfl, zeroCells1] at hH1; simpa using hH1, hU1⟩
    case round =>
      obtain ⟨k, hk, rfl, rfl, hH, hU⟩ := hrel
      by_cases hlt : k < n
      · have hk0 : ((k : Int) < n) := by omega
        obtain ⟨b, o, rfl, hr, hbb⟩ := hc.at_ (by omega)
        have hbn : b ∉ bp :: bk ao := hap.not b (by simp)
        have hcell : wr.cell? ⟨b, o + k, none⟩ = some (Value.float .f64 (vs[k]'(by omega))) := (hU.cell hbb hbn).trans (hr k _ (by simp [hvl, hlt]))
        have hcb := hH.cell
        have hcap : m + 8 * k + 8 ≤ c1 := by have := hH.own.cap; omega
        obtain ⟨x, hx⟩ : ∃ x, x = vs[k]'(by omega) := ⟨_, rfl⟩
        rw [← hx] at hcell
        have HX := Lib.hid hx
        clear hx
        go_wp2
        have hwr : IntKind.i64.wrap ((m : Int) + 8 * k + 8) = m + 8 * k + 8 := IntWalk.i64_in _ (by omega)
        refine wp_region_split (S := Upd [] wr) [(true, 0), (true, 1), (true, 2), (true, 3), (true, 4), (true, 5), (true, 6), (true, 7), (true, 8), (true, 9)] [10] [11] (by kernel_rfl) (by kernel_rfl) (fun _ _ d _ _ h => by cases d <;> exact h) ((Upd.refl _ _).drew) ?_
        simp only [readsAt, opersAt, Option.map_some, List.filterMap_cons, List.filterMap_nil, List.getElem?_toArray, List.getElem?_cons_succ, List.getElem?_cons_zero]
        iterate 8 (refine ⟨_, Or.inl ⟨by rfl, fun w' hS => by first | (have q1 := Upd.cell1 hS hcb (by simp); first | (go_simp; done) | (go_simp; with_reducible rfl)) | (go_simp; done) | (go_simp; with_reducible rfl)⟩, ?_⟩; simp only [Act.put, List.setIfInBounds_toArray, List.set_cons_zero, List.set_cons_succ])
        refine ⟨_, yields_slice rfl 26 5 1 _ _ _ rfl Tryz.underlying26 (by kernel_rfl) g 0 _ _ rfl _ _ (m + 8 * k) (m + 8 * k + 8) rfl rfl (by omega) (by omega) (by omega) hcap (by omega) (m + 8 * k) 8 (c1 - (m + 8 * k)) (by omega) (by omega) rfl, ?_⟩
        simp only [Act.put, List.setIfInBounds_toArray, List.set_cons_zero, List.set_cons_succ]
        refine ⟨_, Or.inl ⟨by rfl, fun w' hS => by first | (go_simp; done) | (go_simp; with_reducible rfl)⟩, ?_⟩
        simp only [Act.put, List.setIfInBounds_toArray, List.set_cons_zero, List.set_cons_succ]
        intro L0 hL0
        rw [if_pos (by rfl)]
        go_simp
        refine hL0 _ _ ⟨(Upd.refl [] wr).drew, ?_⟩
        clear hL0 L0
        try simp only [preThen]
        change wpList _ _ _ [_] _ _
        clear hwr
        go_wp2_with (go_at_call 242; (with_reducible refine (PutUint64 g (m + 8 * k) 8 _ (m + 8 * n) c1 _ _ _ (World.ownsRow.drew hH.own) ?_ (by omega)).mono ?_); (· have := Nat.mul_le_mul_left 8 (show k + 1 ≤ n by omega); omega); rintro e wx ⟨rfl, hrow, hux⟩)
        have hstep : putAt (bs ++ (vs.take k).flatMap (fun x : Nat => leV 8 (x : Int)) ++ List.replicate (8 * (n - k)) (.int .u8 0)) (m + 8 * k) (leV 8 x) = bs ++ (vs.take (k + 1)).flatMap (fun x : Nat => leV 8 (x : Int)) ++ List.replicate (8 * (n - (k + 1))) (.int .u8 0) := by
          rw [flatMap_take_succ _ _ _ (by omega), ← HX.out]
          refine enc_step (r := 8 * (n - (k + 1))) (m := 8) ?_ (leV_len _ _) ?_
          · congr 1; have : n - k = (n - (k + 1)) + 1 := by omega
            rw [this]; omega
          · rw [List.length_append, flatMap_len _ 8 (fun x : Nat => leV_len 8 (x : Int)), List.length_take]; omega
        rw [hstep] at hrow
        have hux' : Upd [g] wr wx := hux.ofDrew
        have hH' : Hold wx bp 46 5 1 (some ⟨g, 0, none⟩) (m + 8 * n) c1 (bs ++ (vs.take (k + 1)).flatMap (fun x : Nat => leV 8 (x : Int)) ++ List.replicate (8 * (n - (k + 1))) (.int .u8 0)) := ⟨hux'.at hH.blk (fun h => hH.ne (by simpa using h)), hrow, hH.ne⟩
        have hU' : Upd (bp :: bk ao) w wx := hU.trans hux' (fun y hy => by
          simp at hy; subst hy
          rcases hin1 y (by simp) with h | h
          · exact .inl (List.mem_cons_of_mem _ h)
          · exact .inr h)
        clear hstep hrow hux hux' hH hU
        go_roundw
        case rel => exact ⟨k + 1, by omega, by go_num, by simp; omega, hH', hU'⟩
        case measure => simp [intOf]; omega
      · have hk0 : n ≤ k := by omega
        obtain rfl : k = n := by omega
        go_wp2
        go_end0
        refine ⟨rfl, some ⟨g, 0, none⟩, c1, ?_, hU, hin1⟩
        rw [List.take_of_length_le (by omega), Nat.sub_self, Nat.mul_zero, List.replicate_zero, List.append_nil] at hH
        rw [Nat.mul_comm k 8]
        exact hH
set_option maxRecDepth 100000 in
set_option maxHeartbeats 1000000 in
theorem ColFloat32_DecodeColumn (p rd bf d : Nat) (ao : Option Addr) (n : Nat) (xs : List Nat) (hx : ∀ x ∈ xs, x < 4294967296) (rest : List Value) (w : World) (h : Rdr w rd bf d ao (xs.flatMap (fun x : Nat => leV 4 (x : Int)) ++ rest)) (hn : xs.length = n) (h0 : 0 < n) (h30 : n ≤ 30)
    (hH : Hold w p 253 349 1 none 0 0 []) (ho : Off p rd bf d ao) :
    Calls Tryz.prog 342 #[.pointer (some ⟨p, 0, none⟩), .pointer (some ⟨rd, 0, none⟩), .int .i64 n] w fun e w' => e = .returned .nilIface ∧ Got w w' p 253 349 1 rd bf d ao n (xs.map (Value.float .f32)) rest := by
  have hfl : (xs.flatMap (fun x : Nat => leV 4 (x : Int))).length = n * 4 := by rw [flatMap_len _ 4 (fun x : Nat => leV_len 4 (x : Int)), hn]
  obtain ⟨N, hN⟩ : ∃ N, N = n * 4 := ⟨_, rfl⟩
  rw [← hN] at hfl
  have ht : (xs.flatMap (fun x : Nat => leV 4 (x : Int)) ++ rest).take N = xs.flatMap (fun x : Nat => leV 4 (x : Int)) := by rw [List.take_append_of_le_length (by omega), List.take_of_length_le (by omega)]
  have hd : (xs.flatMap (fun x : Nat => leV 4 (x : Int)) ++ rest).drop N = rest := by rw [List.drop_append_of_le_length (by omega), List.drop_of_length_le (by omega), List.nil_append]
  have hLN : N ≤ (xs.flatMap (fun x : Nat => leV 4 (x : Int)) ++ rest).length := by rw [List.length_append]; omega
  have h1 : ((n : Int) == 0) = false := beq_eq_false_iff_ne.2 (by omega)
  have hmul : IntKind.i64.wrap ((n : Int) * 4) = N := by rw [IntWalk.i64_in _ (by omega)]; omega
  have hsub : IntKind.i64.wrap ((N : Int) - 4) = N - 4 := IntWalk.i64_in _ (by omega)
  have hb1 : ((N : Int) - 4) < N := by omega
  have hb0 : 0 ≤ ((N : Int) - 4) := by omega
  have hpl := hH.lt
  have HN := Lib.hid hN
  clear hN
  go_enter Tryz.func342, Tryz.ntmps342
  go_wp2_with (go_at_call 205; apply stopHere)
  show Calls _ _ _ _ _
  refine (ReadRawB rd bf d N _ (by first | rfl | exact hmul | (have := HN.out; omega)) ao _ w h (by have := HN.out; omega) (by have := HN.out; omega) hLN).mono ?_
  rintro e w1 ⟨g, c1, rfl, hR1, hG1, hu1, hi1⟩
  dsimp only
  rw [ht] at hG1
  rw [hd] at hR1
  have hP1 := hH.kept hu1 ho.not (by simp)
  have q0 := hP1.cell
  have hr1 := hG1.own.view 0 (xs.flatMap (fun x : Nat => leV 4 (x : Int))) (fun j v hj => by rw [Nat.zero_add]; exact hj)
  have hgl : g < w1.heap.size := hG1.own.lt g (by simp)
  obtain ⟨u, hu⟩ : ∃ u, w1.cell? ⟨g, N - 4, none⟩ = some u := by
    obtain ⟨u, hu⟩ : ∃ u, (xs.flatMap (fun x : Nat => leV 4 (x : Int)))[N - 4]? = some u := ⟨(xs.flatMap (fun x : Nat => leV 4 (x : Int)))[N - 4]'(by have := HN.out; omega), by simp⟩
    exact ⟨u, by have := hr1 _ u hu; rwa [Nat.zero_add] at this⟩
  have hcap := hG1.own.cap.1
  go_wp2
  go_loopw [9, 10] (fun v i wr => ∃ (k : Nat) (av : Option Addr) (c : Nat), k ≤ n ∧ i = .int .i64 (4 * k : Nat) ∧ v = .slice av k c ∧ Row wr 349 1 av k c ((xs.take k).map (Value.float .f32)) ∧ Upd [] w1 wr ∧ In [] w1.heap.size av)
    (fun _ i _ => N - (intOf i).toNat)
  case atStart => exact ⟨0, none, 0, Nat.zero_le _, rfl, rfl, Row.nil, Upd.refl _ _, In.nil⟩
  case round =>
    obtain ⟨k, av, c, hk, rfl, rfl, hown, hU, hI⟩ := hrel
    by_cases hlt : k < n
    · have hk0 : (4 : Int) * k ≤ N - 4 := by have := HN.out; omega
      have hwr : IntKind.i64.wrap ((4 : Int) * k + 4) = 4 * k + 4 := IntWalk.i64_in _ (by omega)
      have hpc := hU.range (flat_piece hr1 (fun x : Nat => leV_len 4 (x : Int)) k (by omega)) hgl (by simp)
      have hgl' := Nat.lt_of_lt_of_le hgl hU.size
      obtain ⟨x, hxx⟩ : ∃ x, x = xs[k]'(by omega) := ⟨_, rfl⟩
      rw [← hxx] at hpc
      have hrg := hx x (by rw [hxx]; exact List.getElem_mem _)
      have hcv : (x : Int) % 4294967296 = x := by omega
      have hcw : x % 4294967296 = x := by omega
      have hcu : ((x : Int) % 4294967296).toNat = x := by omega
      have hof := f32of
      have HX := Lib.hid hxx
      clear hxx hx
      go_wp2
      refine wp_region_split (S := Upd [] wr) [(false, 0), (true, 1), (true, 2), (true, 3), (true, 4), (true, 5), (true, 6)] [] [7, 8, 9, 10, 11] (by kernel_rfl) (by kernel_rfl) (fun _ _ d _ _ h => by cases d <;> exact h) ((Upd.refl _ _).drew) ?_
      simp only [readsAt, opersAt, Option.map_some, List.filterMap_cons, List.filterMap_nil, List.getElem?_toArray, List.getElem?_cons_succ, List.getElem?_cons_zero]
      iterate 6 (refine ⟨_, Or.inl ⟨by rfl, fun w' hS => by first | (skip; first | (go_simp; done) | (go_simp; with_reducible rfl)) | (go_simp; done) | (go_simp; with_reducible rfl)⟩, ?_⟩; simp only [Act.put, List.setIfInBounds_toArray, List.set_cons_zero, List.set_cons_succ])
      refine ⟨_, yields_slice rfl 26 5 1 _ _ _ rfl Tryz.underlying26 (by kernel_rfl) g 0 _ _ rfl _ _ (4 * k) (4 * k + 4) rfl rfl (by omega) (by omega) (by omega) (by have := HN.out; omega) (by have := HN.out; omega) (4 * k) 4 (c1 - 4 * k) (by omega) (by omega) rfl, ?_⟩
      simp only [Act.put, List.setIfInBounds_toArray, List.set_cons_zero, List.set_cons_succ]
      simp only [readsThen, preThen]
      change wpList _ _ _ [_, _, _, _, _] _ _
      go_wp2_with (first
        | (go_at_call 113; (refine (Uint32at g (4 * k) _ (x : Int) _ ((Upd.refl [] wr).drew.range hpc hgl' (by simp)) hgl').mono ?_); rintro e w2 ⟨rfl, hu2⟩; have hown2 := hown.upd hu2.ofDrew (by simp))
        | (at_builtin; refine wpList_app1 _ rfl _ _ 253 rfl 349 (.float .f32 0) 1 4 Tryz.underlying253 Tryz.info349 rfl (by decide) hown2 rfl [Value.float .f32 x] rfl rfl rfl (by simp [Value.oneCell']) (by decide) (by omega) ?_; intro av3 c3 w3 hown3 hupd3 hin3))
      have hU2 : Upd [] w1 w2 := hU.trans hu2.ofDrew (fun _ h => .inl h)
      have hU3 : Upd [] w1 w3 := hU2.own hupd3 hI
      have hI3 : In [] w1.heap.size av3 := hI.step hin3 hU2.size
      have hR3 : Row w3 349 1 av3 (k + 1) c3 ((xs.take (k + 1)).map (Value.float .f32)) := by
        rw [List.take_succ_eq_append_getElem (by omega), ← HX.out, List.map_append]
        exact hown3
      clear hown hown2 hown3 hpc hupd3 hin3
      go_roundw
      case rel => exact ⟨k + 1, av3, c3, by omega, by simp; omega, rfl, hR3, hU3, hI3⟩
      case measure => have := HN.out; simp [intOf]; omega
    · have hk0 : ¬ ((4 : Int) * k ≤ N - 4) := by have := HN.out; omega
      obtain rfl : k = n := by omega
      rw [List.take_of_length_le (by omega)] at hown
      have hP2 := hP1.kept hU (by simp) (by simp)
      have p0 := hP2.cell
      have pf := hP2.free
      go_wp2
      go_ret
      have hpo : Off p rd bf d (some ⟨g, 0, none⟩) := ho.step hi1 hpl
      have hs1 : w.heap.size ≤ w1.heap.size := hu1.size
      have hne : p ∉ bk av := fun hp => by
        rcases hI p hp with h | h
        · simp at h
        · omega
      have hsc := (Upd.refl [p] wr).setCell (p := ⟨p, 0, none⟩) (Value.slice av k c) (by simp)
      refine ⟨rfl, av, c, some ⟨g, 0, none⟩, Hold.stored hP2.blk hown hne, (hR1.kept hU (by simp)).keptK hsc hpo, ?_, hI.le hs1, hi1, fun y hy hy' => ?_⟩
      · exact ((hu1.mono (fun y hy => .inl (List.mem_cons_of_mem _ hy))).trans hU (fun _ h => by simp at h)).setCell _ (by simp)
      · have hyl : w1.heap.size ≤ y := by
          rcases hI y hy with h | h
          · simp at h
          · exact h
        have hl1 := hR1.ltr
        have hl2 := hR1.ltb
        simp [rdF] at hy'
        rcases hy' with h | h | h <;> omega
set_option maxRecDepth 100000 in
set_option maxHeartbeats 1000000 in
theorem ColFloat64_DecodeColumn (p rd bf d : Nat) (ao : Option Addr) (n : Nat) (xs : List Nat) (hx : ∀ x ∈ xs, x < 18446744073709551616) (rest : List Value) (w : World) (h : Rdr w rd bf d ao (xs.flatMap (fun x : Nat => leV 8 (x : Int)) ++ rest)) (hn : xs.length = n) (h0 : 0 < n) (h30 : n ≤ 30)
    (hH : Hold w p 262 263 1 none 0 0 []) (ho : Off p rd bf d ao) :
    Calls Tryz.prog 353 #[.pointer (some ⟨p, 0, none⟩), .pointer (some ⟨rd, 0, none⟩), .int .i64 n] w fun e w' => e = .returned .nilIface ∧ Got w w' p 262 263 1 rd bf d ao n (xs.map (Value.float .f64)) rest := by
  have hfl : (xs.flatMap (fun x : Nat => leV 8 (x : Int))).length = n * 8 := by rw [flatMap_len _ 8 (fun x : Nat => leV_len 8 (x : Int)), hn]
  obtain ⟨N, hN⟩ : ∃ N, N = n * 8 := ⟨_, rfl⟩
  rw [← hN] at hfl
  have ht : (xs.flatMap (fun x : Nat => leV 8 (x : Int)) ++ rest).take N = xs.flatMap (fun x : Nat => leV 8 (x : Int)) := by rw [List.take_append_of_le_length (by omega), List.take_of_length_le (by omega)]
  have hd : (xs.flatMap (fun x : Nat => leV 8 (x : Int)) ++ rest).drop N = rest := by rw [List.drop_append_of_le_length (by omega), List.drop_of_length_le (by omega), List.nil_append]
  have hLN : N ≤ (xs.flatMap (fun x : Nat => leV 8 (x : Int)) ++ rest).length := by rw [List.length_append]; omega
  have h1 : ((n : Int) == 0) = false := beq_eq_false_iff_ne.2 (by omega)
  have hmul : IntKind.i64.wrap ((n : Int) * 8) = N := by rw [IntWalk.i64_in _ (by omega)]; omega
  have hsub : IntKind.i64.wrap ((N : Int) - 8) = N - 8 := IntWalk.i64_in _ (by omega)
  have hb1 : ((N : Int) - 8) < N := by omega
  have hb0 : 0 ≤ ((N : Int) - 8) := by omega
  have hpl := hH.lt
  have HN := Lib.hid hN
  clear hN
  go_enter Tryz.func353, Tryz.ntmps353
  go_wp2_with (go_at_call 205; apply stopHere)
  show Calls _ _ _ _ _
  refine (ReadRawB rd bf d N _ (by first | rfl | exact hmul | (have := HN.out; omega)) ao _ w h (by have := HN.out; omega) (by have := HN.out; omega) hLN).mono ?_
  rintro e w1 ⟨g, c1, rfl, hR1, hG1, hu1, hi1⟩
  dsimp only
  rw [ht] at hG1
  rw [hd] at hR1
  have hP1 := hH.kept hu1 ho.not (by simp)
  have q0 := hP1.cell
  have hr1 := hG1.own.view 0 (xs.flatMap (fun x : Nat => leV 8 (x : Int))) (fun j v hj => by rw [Nat.zero_add]; exact hj)
  have hgl : g < w1.heap.size := hG1.own.lt g (by simp)
  obtain ⟨u, hu⟩ : ∃ u, w1.cell? ⟨g, N - 8, none⟩ = some u := by
    obtain ⟨u, hu⟩ : ∃ u, (xs.flatMap (fun x : Nat => leV 8 (x : Int)))[N - 8]? = some u := ⟨(xs.flatMap (fun x : Nat => leV 8 (x : Int)))[N - 8]'(by have := HN.out; omega), by simp⟩
    exact ⟨u, by have := hr1 _ u hu; rwa [Nat.zero_add] at this⟩
  have hcap := hG1.own.cap.1
  go_wp2
  go_loopw [9, 10] (fun v i wr => ∃ (k : Nat) (av : Option Addr) (c : Nat), k ≤ n ∧ i = .int .i64 (8 * k : Nat) ∧ v = .slice av k c ∧ Row wr 263 1 av k c ((xs.take k).map (Value.float .f64)) ∧ Upd [] w1 wr ∧ In [] w1.heap.size av)
    (fun _ i _ => N - (intOf i).toNat)
  case atStart => exact ⟨0, none, 0, Nat.zero_le _, rfl, rfl, Row.nil, Upd.refl _ _, In.nil⟩
  case round =>
    obtain ⟨k, av, c, hk, rfl, rfl, hown, hU, hI⟩ := hrel
    by_cases hlt : k < n
    · have hk0 : (8 : Int) * k ≤ N - 8 := by have := HN.out; omega
      have hwr : IntKind.i64.wrap ((8 : Int) * k + 8) = 8 * k + 8 := IntWalk.i64_in _ (by omega)
      have hpc := hU.range (flat_piece hr1 (fun x : Nat => leV_len 8 (x : Int)) k (by omega)) hgl (by simp)
      have hgl' := Nat.lt_of_lt_of_le hgl hU.size
      obtain ⟨x, hxx⟩ : ∃ x, x = xs[k]'(by omega) := ⟨_, rfl⟩
      rw [← hxx] at hpc
      have hrg := hx x (by rw [hxx]; exact List.getElem_mem _)
      have hcv : (x : Int) % 18446744073709551616 = x := by omega
      have hcw : x % 18446744073709551616 = x := by omega
      have hcu : ((x : Int) % 18446744073709551616).toNat = x := by omega
      have hof := f64of
      have HX := Lib.hid hxx
      clear hxx hx
      go_wp2
      refine wp_region_split (S := Upd [] wr) [(false, 0), (true, 1), (true, 2), (true, 3), (true, 4), (true, 5), (true, 6)] [] [7, 8, 9, 10, 11] (by kernel_rfl) (by kernel_rfl) (fun _ _ d _ _ h => by cases d <;> exact h) ((Upd.refl _ _).drew) ?_
      simp only [readsAt, opersAt, Option.map_some, List.filterMap_cons, List.filterMap_nil, List.getElem?_toArray, List.getElem?_cons_succ, List.getElem?_cons_zero]
      iterate 6 (refine ⟨_, Or.inl ⟨by rfl, fun w' hS => by first | (skip; first | (go_simp; done) | (go_simp; with_reducible rfl)) | (go_simp; done) | (go_simp; with_reducible rfl)⟩, ?_⟩; simp only [Act.put, List.setIfInBounds_toArray, List.set_cons_zero, List.set_cons_succ])
      refine ⟨_, yields_slice rfl 26 5 1 _ _ _ rfl Tryz.underlying26 (by kernel_rfl) g 0 _ _ rfl _ _ (8 * k) (8 * k + 8) rfl rfl (by omega) (by omega) (by omega) (by have := HN.out; omega) (by have := HN.out; omega) (8 * k) 8 (c1 - 8 * k) (by omega) (by omega) rfl, ?_⟩
      simp only [Act.put, List.setIfInBounds_toArray, List.set_cons_zero, List.set_cons_succ]
      simp only [readsThen, preThen]
      change wpList _ _ _ [_, _, _, _, _] _ _
      go_wp2_with (first
        | (go_at_call 241; (refine (Uint64at g (8 * k) _ (x : Int) _ ((Upd.refl [] wr).drew.range hpc hgl' (by simp)) hgl').mono ?_); rintro e w2 ⟨rfl, hu2⟩; have hown2 := hown.upd hu2.ofDrew (by simp))
        | (at_builtin; refine wpList_app1 _ rfl _ _ 262 rfl 263 (.float .f64 0) 1 8 Tryz.underlying262 Tryz.info263 rfl (by decide) hown2 rfl [Value.float .f64 x] rfl rfl rfl (by simp [Value.oneCell']) (by decide) (by omega) ?_; intro av3 c3 w3 hown3 hupd3 hin3))
      have hU2 : Upd [] w1 w2 := hU.trans hu2.ofDrew (fun _ h => .inl h)
      have hU3 : Upd [] w1 w3 := hU2.own hupd3 hI
      have hI3 : In [] w1.heap.size av3 := hI.step hin3 hU2.size
      have hR3 : Row w3 263 1 av3 (k + 1) c3 ((xs.take (k + 1)).map (Value.float .f64)) := by
        rw [List.take_succ_eq_append_getElem (by omega), ← HX.out, List.map_append]
        exact hown3
      clear hown hown2 hown3 hpc hupd3 hin3
      go_roundw
      case rel => exact ⟨k + 1, av3, c3, by omega, by simp; omega, rfl, hR3, hU3, hI3⟩
      case measure => have := HN.out; simp [intOf]; omega
    · have hk0 : ¬ ((8 : Int) * k ≤ N - 8) := by have := HN.out; omega
      obtain rfl : k = n := by omega
      rw [List.take_of_length_le (by omega)] at hown
      have hP2 := hP1.kept hU (by simp) (by simp)
      have p0 := hP2.cell
      have pf := hP2.free
      go_wp2
      go_ret
      have hpo : Off p rd bf d (some ⟨g, 0, none⟩) := ho.step hi1 hpl
      have hs1 : w.heap.size ≤ w1.heap.size := hu1.size
      have hne : p ∉ bk av := fun hp => by
        rcases hI p hp with h | h
        · simp at h
        · omega
      have hsc := (Upd.refl [p] wr).setCell (p := ⟨p, 0, none⟩) (Value.slice av k c) (by simp)
      refine ⟨rfl, av, c, some ⟨g, 0, none⟩, Hold.stored hP2.blk hown hne, (hR1.kept hU (by simp)).keptK hsc hpo, ?_, hI.le hs1, hi1, fun y hy hy' => ?_⟩
      · exact ((hu1.mono (fun y hy => .inl (List.mem_cons_of_mem _ hy))).trans hU (fun _ h => by simp at h)).setCell _ (by simp)
      · have hyl : w1.heap.size ≤ y := by
          rcases hI y hy with h | h
          · simp at h
          · exact h
        have hl1 := hR1.ltr
        have hl2 := hR1.ltb
        simp [rdF] at hy'
        rcases hy' with h | h | h <;> omega
end Go.Proofs.YtfbohkbpgfnceaaGreatDoor
