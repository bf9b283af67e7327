/- Columns of a byte a row: int8, uint8, bool. -/
import Derived.Test.YtfbohkbpgfnceaaGreatDoorMB
namespace Go.Proofs.YtfbohkbpgfnceaaGreatDoor
set_option linter.unusedVariables false
set_option linter.unusedSimpArgs false
open Go Go.RowKit
theorem set_mid (A : List Value) (z v : Value) (r : Nat) (j : Nat) (hj : j = A.length) : (A ++ List.replicate (r + 1) z).set j v = A ++ [v] ++ List.replicate r z := by
  subst hj
  rw [List.set_append_right _ _ (by omega), Nat.sub_self, List.replicate_succ, List.set_cons_zero, List.append_assoc]
  rfl
theorem Tryz.info103 : (Tryz.prog.info? 103).map (fun i => (i.zero, i.size, i.bytes)) = some (some (.int .i8 0), 1, 1) := by kernel_rfl
theorem Tryz.info4 : (Tryz.prog.info? 4).map (fun i => (i.zero, i.size, i.bytes)) = some (some (.bool false), 1, 1) := by kernel_rfl
set_option maxRecDepth 100000 in
set_option maxHeartbeats 400000 in
theorem ColInt8_Append (p : Nat) (ao : Option Addr) (n c : Nat) (xs : List Value) (x : Int) (w : World) (h : Hold w p 102 103 1 ao n c xs) (hn : n ≤ 1000000) :
    Calls Tryz.prog 454 #[.pointer (some ⟨p, 0, none⟩), Value.int .i8 x] w fun e w' => e = .returned (.tuple #[]) ∧ Grew w w' p 102 103 1 ao (n + 1) (xs ++ [Value.int .i8 x]) := by
  have hc := h.cell
  go_enter Tryz.func454, Tryz.ntmps454
  go_wp2_with (at_builtin; refine wpList_app1 _ rfl _ _ 102 rfl 103 (.int .i8 0) 1 1 Tryz.underlying102 Tryz.info103 rfl (by decide) h.own rfl [Value.int .i8 x] rfl rfl rfl (by simp [Value.oneCell']) (by decide) (by omega) ?_; intro ao1 c1 w1 hown1 hupd1 hin1; have hc1 := h.cell1 hupd1; have hf1 := h.free1 hupd1)
  go_end0
  exact ⟨rfl, _, _, h.after hown1 hupd1 hin1, h.upd hupd1 _, hin1⟩
set_option maxRecDepth 100000 in
set_option maxHeartbeats 400000 in
theorem ColUInt8_Append (p : Nat) (ao : Option Addr) (n c : Nat) (xs : List Value) (x : Int) (w : World) (h : Hold w p 164 5 1 ao n c xs) (hn : n ≤ 1000000) :
    Calls Tryz.prog 274 #[.pointer (some ⟨p, 0, none⟩), Value.int .u8 x] w fun e w' => e = .returned (.tuple #[]) ∧ Grew w w' p 164 5 1 ao (n + 1) (xs ++ [Value.int .u8 x]) := by
  have hc := h.cell
  go_enter Tryz.func274, Tryz.ntmps274
  go_wp2_with (at_builtin; refine wpList_app1 _ rfl _ _ 164 rfl 5 (.int .u8 0) 1 1 Tryz.underlying164 Tryz.info5 rfl (by decide) h.own rfl [Value.int .u8 x] rfl rfl rfl (by simp [Value.oneCell']) (by decide) (by omega) ?_; intro ao1 c1 w1 hown1 hupd1 hin1; have hc1 := h.cell1 hupd1; have hf1 := h.free1 hupd1)
  go_end0
  exact ⟨rfl, _, _, h.after hown1 hupd1 hin1, h.upd hupd1 _, hin1⟩
set_option maxRecDepth 100000 in
set_option maxHeartbeats 400000 in
theorem ColBool_Append (p : Nat) (ao : Option Addr) (n c : Nat) (xs : List Value) (x : Bool) (w : World) (h : Hold w p 276 4 1 ao n c xs) (hn : n ≤ 1000000) :
    Calls Tryz.prog 374 #[.pointer (some ⟨p, 0, none⟩), Value.bool x] w fun e w' => e = .returned (.tuple #[]) ∧ Grew w w' p 276 4 1 ao (n + 1) (xs ++ [Value.bool x]) := by
  have hc := h.cell
  go_enter Tryz.func374, Tryz.ntmps374
  go_wp2_with (at_builtin; refine wpList_app1 _ rfl _ _ 276 rfl 4 (.bool false) 1 1 Tryz.underlying276 Tryz.info4 rfl (by decide) h.own rfl [Value.bool x] rfl rfl rfl (by simp [Value.oneCell']) (by decide) (by omega) ?_; intro ao1 c1 w1 hown1 hupd1 hin1; have hc1 := h.cell1 hupd1; have hf1 := h.free1 hupd1)
  go_end0
  exact ⟨rfl, _, _, h.after hown1 hupd1 hin1, h.upd hupd1 _, hin1⟩
set_option maxRecDepth 100000 in
set_option maxHeartbeats 400000 in
theorem ColUInt8_EncodeColumn (ac : Option Addr) (n cc : Nat) (xs : List Value) (bp : Nat) (ao : Option Addr) (m cp : Nat) (bs : List Value) (w : World) (hc : View w 1 ac n xs) (hx1 : ∀ u ∈ xs, u.oneCell' = true) (hb : Hold w bp 46 5 1 ao m cp bs)
    (hn : n ≤ 1000000) (hm : m ≤ 100000000) :
    Calls Tryz.prog 276 #[.slice ac n cc, .pointer (some ⟨bp, 0, none⟩)] w fun e w' => e = .returned (.tuple #[]) ∧ Grew w w' bp 46 5 1 ao (m + n) (bs ++ xs) := by
  by_cases h0 : n = 0
  · subst h0
    have hx0 : xs = [] := List.eq_nil_of_length_eq_zero (by simpa using hc.len)
    subst hx0
    go_enter Tryz.func276, Tryz.ntmps276
    go_wp2
    refine bodyPost_ret (results_none rfl _ _ _) rfl ?_
    exact ⟨rfl, ao, cp, by simpa using hb, Upd.refl _ _, In.self (fun _ h => h)⟩
  · have h1 : ((n : Int) == 0) = false := beq_eq_false_iff_ne.2 (by omega)
    have hc0 := hb.cell
    obtain ⟨b, o, rfl, hr, hbb⟩ := hc.at_ (by omega)
    have hl := hc.len
    go_enter Tryz.func276, Tryz.ntmps276
    go_wp2_with (at_builtin; refine wpList_app _ rfl _ _ 26 164 rfl 5 (.int .u8 0) 1 1 Tryz.underlying26 Tryz.info5 rfl (by decide) hb.own rfl (Src.ofRange Tryz.underlying164 (by omega) hr hx1) rfl (by decide) (by omega) ?_; intro ao1 c1 w1 hown1 hupd1 hin1; have hc1 := hb.cell1 hupd1; have hf1 := hb.free1 hupd1)
    go_end0
    exact ⟨rfl, ao1, c1, hb.after hown1 hupd1 hin1, hb.upd hupd1 _, hin1⟩
set_option maxRecDepth 100000 in
set_option maxHeartbeats 1000000 in
theorem ColInt8_EncodeColumn (ac : Option Addr) (n cc : Nat) (vs : List Int) (bp : Nat) (ao : Option Addr) (m cp : Nat) (bs : List Value) (w : World) (hc : View w 1 ac n (vs.map (Value.int .i8))) (hb : Hold w bp 46 5 1 ao m cp bs)
    (hap : Apart ac bp ao) (hac : ∀ x, x ∈ bk ac → x < w.heap.size) (hn : n ≤ 1000000) (hm : m ≤ 100000000) :
    Calls Tryz.prog 200 #[.slice ac n cc, .pointer (some ⟨bp, 0, none⟩)] w fun e w' => e = .returned (.tuple #[]) ∧ Grew w w' bp 46 5 1 ao (m + n) (bs ++ vs.map (fun x => Value.int .u8 (IntKind.u8.wrap x))) := by
  have hvl : vs.length = n := by have := hc.len; simpa using this
  have hbl := hb.own.len
  by_cases h0 : n = 0
  · subst h0
    have hv0 : vs = [] := List.eq_nil_of_length_eq_zero hvl
    subst hv0
    go_enter Tryz.func200, Tryz.ntmps200
    go_wp2
    refine bodyPost_ret (results_none rfl _ _ _) rfl ?_
    exact ⟨rfl, ao, cp, by simpa using hb, Upd.refl _ _, In.self (fun _ h => h)⟩
  · have h1 : ((n : Int) == 0) = false := beq_eq_false_iff_ne.2 (by omega)
    have hc0 := hb.cell
    go_enter Tryz.func200, Tryz.ntmps200
    go_wp2_with (at_builtin; refine wpList_zeros _ rfl _ _ 26 3 rfl 5 (.int .u8 0) 1 1 .i64 Tryz.underlying26 Tryz.underlying3 Tryz.info5 rfl (by decide) (by simp [Value.cells, Value.oneCell']) hb.own rfl n (by omega) rfl (by omega) (by decide) (by omega) ?_; intro ao1 c1 w1 hown1 hupd1 hin1; have hc1 := hb.cell1 hupd1; have hf1 := hb.free1 hupd1)
    have hH1 := hb.after hown1 hupd1 hin1
    have hU1 := hb.upd hupd1 (.slice ao1 (m + n) c1)
    clear hown1 hupd1 hc1 hf1
    generalize w1.setCell ⟨bp, 0, none⟩ (.slice ao1 (m + n) c1) = w2 at *
    obtain ⟨g, rfl⟩ := hH1.own.head (by omega)
    go_loopw [28] (fun i wr => ∃ k : Nat, k ≤ n ∧ i = .int .i64 k ∧ Hold wr bp 46 5 1 (some ⟨g, 0, none⟩) (m + n) c1 (bs ++ (vs.take k).map (fun x => Value.int .u8 (IntKind.u8.wrap x)) ++ List.replicate (n - k) (.int .u8 0)) ∧ Upd (bp :: bk ao) w wr)
      (fun i _ => n - (intOf i).toNat)
    case atStart => exact ⟨0, Nat.zero_le _, rfl, by rw [show (Value.int .u8 0).cells = #[Value.int .u8 0] from rfl, zeroCells1] at hH1; simpa using hH1, hU1⟩
    case round =>
      obtain ⟨k, hk, rfl, hH, hU⟩ := hrel
      by_cases hlt : k < n
      · have hk0 : ((k : Int) < n) := by omega
        obtain ⟨b, o, rfl, hr, hbb⟩ := hc.at_ (by omega)
        have hbn : b ∉ bp :: bk ao := hap.not b (by simp)
        have hcell : wr.cell? ⟨b, o + k, none⟩ = some (.int .i8 (vs[k]'(by omega))) := (hU.cell hbb hbn).trans (hr k _ (by simp [hvl, hlt]))
        have hcb := hH.cell
        obtain ⟨x, hx⟩ : ∃ x, x = vs[k]'(by omega) := ⟨_, rfl⟩
        rw [← hx] at hcell
        have HX := Lib.hid hx
        clear hx
        go_wp2
        have hwr : IntKind.i64.wrap ((k : Int) + m) = (k : Int) + m := IntWalk.i64_in _ (by omega)
        have hin0 : 0 ≤ (k : Int) + m := by omega
        have hin2 : (k : Int) + m < (m : Int) + n := by omega
        have htn : ((k : Int) + m).toNat = k + m := by omega
        obtain ⟨uo, huo⟩ : ∃ u, wr.cell? ⟨g, k + m, none⟩ = some u := by
          obtain ⟨u, _, hu⟩ := hH.own.cell' (k + m) (by omega)
          exact ⟨u, hu⟩
        have hfo := hH.own.free (k + m)
        refine wp_region_split (S := Upd [] wr) [(true, 0), (true, 1), (true, 2), (true, 3), (true, 4), (true, 5), (true, 6), (true, 7), (true, 8), (true, 9), (true, 10), (true, 11), (true, 12)] [] [13] (by kernel_rfl) (by kernel_rfl) (fun _ _ d _ _ h => by cases d <;> exact h) ((Upd.refl _ _).drew) ?_
        simp only [readsAt, opersAt, Option.map_some, List.filterMap_cons, List.filterMap_nil, List.getElem?_toArray, List.getElem?_cons_succ, List.getElem?_cons_zero]
        iterate 13 (refine ⟨_, Or.inl ⟨by rfl, fun w' hS => by first | (have q1 := Upd.cell1 hS hcb (by simp); have q2 := Upd.cell1 hS hcell (by simp); first | (go_simp; done) | (go_simp; with_reducible rfl)) | (go_simp; done) | (go_simp; with_reducible rfl)⟩, ?_⟩; simp only [Act.put, List.setIfInBounds_toArray, List.set_cons_zero, List.set_cons_succ])
        simp only [readsThen, preThen]
        change wpList _ _ _ [_] _ _
        have huo' : wr.drew.cell? ⟨g, k + m, none⟩ = some uo := huo
        have hfo' : wr.drew.frozen? ⟨g, k + m, none⟩ = false := hfo
        go_wp2
        have hst := Row.stored1 (w := wr.drew) (World.ownsRow.drew hH.own) (k + m) (Value.int .u8 (IntKind.u8.wrap x))
        have hls : (bs ++ (vs.take k).map (fun x => Value.int .u8 (IntKind.u8.wrap x)) ++ List.replicate (n - k) (Value.int .u8 0)).set (k + m) (Value.int .u8 (IntKind.u8.wrap x)) = bs ++ (vs.take (k + 1)).map (fun x => Value.int .u8 (IntKind.u8.wrap x)) ++ List.replicate (n - (k + 1)) (Value.int .u8 0) := by
          rw [show n - k = (n - (k + 1)) + 1 by omega, set_mid _ _ _ _ _ (by rw [List.length_append, List.length_map, List.length_take]; omega), List.take_succ_eq_append_getElem (by omega), ← HX.out, List.map_append, ← List.append_assoc]
          rfl
        rw [hls] at hst
        have hux' : Upd [g] wr (wr.drew.setCell ⟨g, k + m, none⟩ (.int .u8 (IntKind.u8.wrap x))) := ((Upd.refl [g] wr).drew).setCell _ (by simp)
        have hH' : Hold (wr.drew.setCell ⟨g, k + m, none⟩ (.int .u8 (IntKind.u8.wrap x))) bp 46 5 1 (some ⟨g, 0, none⟩) (m + n) c1 (bs ++ (vs.take (k + 1)).map (fun x => Value.int .u8 (IntKind.u8.wrap x)) ++ List.replicate (n - (k + 1)) (.int .u8 0)) := ⟨hux'.at hH.blk (fun h => hH.ne (by simpa using h)), hst, hH.ne⟩
        have hU' : Upd (bp :: bk ao) w (wr.drew.setCell ⟨g, k + m, none⟩ (.int .u8 (IntKind.u8.wrap x))) := hU.trans hux' (fun y hy => by
          simp at hy; subst hy
          rcases hin1 y (by simp) with h | h
          · exact .inl (List.mem_cons_of_mem _ h)
          · exact .inr h)
        clear hls hst hux' hH hU
        go_roundw
        case rel => exact ⟨k + 1, by omega, by go_num, hH', hU'⟩
        case measure => simp [intOf]; omega
      · have hk0 : n ≤ k := by omega
        obtain rfl : k = n := by omega
        go_wp2
        go_end0
        refine ⟨rfl, some ⟨g, 0, none⟩, c1, ?_, hU, hin1⟩
        rw [List.take_of_length_le (by omega), Nat.sub_self, List.replicate_zero, List.append_nil] at hH
        exact hH
/-- a row of zeros that is filled: the state behind k of n -/
def fill {α : Type} (V : α → Value) (z : Value) (xs : List α) (n k : Nat) : List Value := (xs.take k).map V ++ List.replicate (n - k) z
theorem fill_step {α : Type} (V : α → Value) (z : Value) (xs : List α) (n k : Nat) (hk : k < n) (hl : xs.length = n) : (fill V z xs n k).set k (V (xs[k]'(by omega))) = fill V z xs n (k + 1) := by
  unfold fill
  rw [show n - k = (n - (k + 1)) + 1 by omega, set_mid _ _ _ _ _ (by rw [List.length_map, List.length_take]; omega), List.take_succ_eq_append_getElem (by omega), List.map_append]
  rfl
theorem fill_end {α : Type} (V : α → Value) (z : Value) (xs : List α) (n : Nat) (hl : xs.length = n) : fill V z xs n n = xs.map V := by
  unfold fill
  rw [List.take_of_length_le (by omega), Nat.sub_self, List.replicate_zero, List.append_nil]
set_option maxRecDepth 100000 in
set_option maxHeartbeats 1000000 in
theorem ColInt8_DecodeColumn (p rd bf d : Nat) (ao : Option Addr) (n : Nat) (xs : List Int) (hx : ∀ x ∈ xs, (-128 : Int) ≤ x ∧ x < 128) (rest : List Value) (w : World) (h : Rdr w rd bf d ao (xs.map (fun x => Value.int .u8 (IntKind.u8.wrap x)) ++ rest)) (hn : xs.length = n) (h0 : 0 < n) (h30 : n ≤ 30)
    (hH : Hold w p 102 103 1 none 0 0 []) (ho : Off p rd bf d ao) :
    Calls Tryz.prog 199 #[.pointer (some ⟨p, 0, none⟩), .pointer (some ⟨rd, 0, none⟩), .int .i64 n] w fun e w' => e = .returned .nilIface ∧ Got w w' p 102 103 1 rd bf d ao n (xs.map (Value.int .i8)) rest := by
  have hfl : (xs.map (fun x => Value.int .u8 (IntKind.u8.wrap x))).length = n := by rw [List.length_map, hn]
  have ht : (xs.map (fun x => Value.int .u8 (IntKind.u8.wrap x)) ++ rest).take n = xs.map (fun x => Value.int .u8 (IntKind.u8.wrap x)) := by rw [List.take_append_of_le_length (by omega), List.take_of_length_le (by omega)]
  have hd : (xs.map (fun x => Value.int .u8 (IntKind.u8.wrap x)) ++ rest).drop n = rest := by rw [List.drop_append_of_le_length (by omega), List.drop_of_length_le (by omega), List.nil_append]
  have hLN : n ≤ (xs.map (fun x => Value.int .u8 (IntKind.u8.wrap x)) ++ rest).length := by rw [List.length_append]; omega
  have h1 : ((n : Int) == 0) = false := beq_eq_false_iff_ne.2 (by omega)
  have hpl := hH.lt
  have Hn := Lib.hid hn
  clear hn
  go_enter Tryz.func199, Tryz.ntmps199
  go_wp2_with (go_at_call 205; apply stopHere)
  show Calls _ _ _ _ _
  refine (ReadRawB rd bf d n _ rfl ao _ w h h0 (by omega) hLN).mono ?_
  rintro e w1 ⟨g, c1, rfl, hR1, hG1, hu1, hi1⟩
  dsimp only
  rw [ht] at hG1
  rw [hd] at hR1
  have hP1 := hH.kept hu1 ho.not (by simp)
  have q0 := hP1.cell
  have hr1 := hG1.own.view 0 (xs.map (fun x => Value.int .u8 (IntKind.u8.wrap x))) (fun j v hj => by rw [Nat.zero_add]; exact hj)
  have hgl : g < w1.heap.size := hG1.own.lt g (by simp)
  go_wp2_with (at_builtin; refine wpList_zeros _ rfl _ _ 102 3 rfl 103 (.int .i8 0) 1 1 .i64 Tryz.underlying102 Tryz.underlying3 Tryz.info103 rfl (by decide) (by simp [Value.cells, Value.oneCell']) Row.nil rfl n rfl rfl (by omega) (by decide) (by omega) ?_; intro av1 cv1 w2 hown2 hupd2 hin2)
  have hu2 : Upd [] w1 w2 := hupd2.mono (by simp)
  rw [Nat.zero_add, List.nil_append, show (Value.int .i8 0).cells = #[Value.int .i8 0] from rfl, zeroCells1] at hown2
  have hI2 : In [] w1.heap.size av1 := hin2.mono (Nat.le_refl _) (by simp)
  obtain ⟨gv, rfl⟩ := hown2.head h0
  have hgv : w1.heap.size ≤ gv := by
    rcases hI2 gv (by simp) with h | h
    · simp at h
    · exact h
  have hr2 := hu2.range hr1 hgl (by simp)
  have hP2 := hP1.kept hu2 (by simp) (by simp)
  go_loopw [31] (fun i wr => ∃ k : Nat, k ≤ n ∧ i = .int .i64 k ∧ Row wr 103 1 (some ⟨gv, 0, none⟩) n cv1 (fill (Value.int .i8) (.int .i8 0) xs n k) ∧ Upd [gv] w2 wr)
    (fun i _ => n - (intOf i).toNat)
  case atStart => exact ⟨0, Nat.zero_le _, rfl, by simpa [fill] using hown2, Upd.refl _ _⟩
  case round =>
    obtain ⟨k, hk, rfl, hown, hU⟩ := hrel
    by_cases hlt : k < n
    · have hk0 : (k : Int) < n := by omega
      obtain ⟨x, hxx⟩ : ∃ x, x = xs[k]'(by have := Hn.out; omega) := ⟨_, rfl⟩
      have hrg := hx x (by rw [hxx]; exact List.getElem_mem _)
      have hcb : wr.cell? ⟨g, k, none⟩ = some (.int .u8 (IntKind.u8.wrap x)) := by
        rw [hU.cell (Nat.lt_of_lt_of_le hgl hu2.size) (by simp; omega)]
        have := hr2 k (.int .u8 (IntKind.u8.wrap x)) (by rw [List.getElem?_map, List.getElem?_eq_getElem (by have := Hn.out; omega), ← hxx]; rfl)
        rwa [Nat.zero_add] at this
      have hcv : IntKind.i8.wrap (x % 256) = x := by
        simp [IntKind.wrap, IntKind.bits, IntKind.signed]
        omega
      obtain ⟨uo, _, huo⟩ := hown.cell' k (by omega)
      have hfo := hown.free k
      have HX := Lib.hid hxx
      clear hxx hx
      go_wp2
      have hst := hown.stored1 k (.int .i8 x)
      have hls := fill_step (Value.int .i8) (.int .i8 0) xs n k hlt Hn.out
      rw [← HX.out] at hls
      rw [hls] at hst
      have hU' : Upd [gv] w2 (wr.setCell ⟨gv, k, none⟩ (.int .i8 x)) := hU.setCell _ (by simp)
      clear hown hls
      go_roundw
      case rel => exact ⟨k + 1, by omega, by go_num, hst, hU'⟩
      case measure => simp [intOf]; omega
    · have hk0 : ¬ ((k : Int) < n) := by omega
      obtain rfl : k = n := by omega
      rw [fill_end _ _ _ _ Hn.out] at hown
      have hgp : p ∉ [gv] := by simp; have := hu1.size; omega
      have hP3 := hP2.kept hU hgp (by simp)
      have p0 := hP3.cell
      have pf := hP3.free
      go_wp2
      go_ret
      have hpo : Off p rd bf d (some ⟨g, 0, none⟩) := ho.step hi1 hpl
      have hs1 : w.heap.size ≤ w1.heap.size := hu1.size
      have hsc := (Upd.refl [p] wr).setCell (p := ⟨p, 0, none⟩) (Value.slice (some ⟨gv, 0, none⟩) k cv1) (by simp)
      have hl1 := hR1.ltr
      have hl2 := hR1.ltb
      have hl3 := hR1.dlt
      have hR3 := (hR1.kept hu2 (by simp)).kept hU (by simp; omega)
      refine ⟨rfl, some ⟨gv, 0, none⟩, cv1, some ⟨g, 0, none⟩, Hold.stored hP3.blk hown (by simpa using hgp), hR3.keptK hsc hpo, ?_, fun y hy => .inr (by simp at hy; omega), hi1, fun y hy hy' => ?_⟩
      · exact (((hu1.mono (fun y hy => .inl (List.mem_cons_of_mem _ hy))).trans hu2 (fun _ h => by simp at h)).trans hU (fun y hy => .inr (by simp at hy; omega))).setCell _ (by simp)
      · simp [rdF] at hy hy'
        omega
end Go.Proofs.YtfbohkbpgfnceaaGreatDoor
