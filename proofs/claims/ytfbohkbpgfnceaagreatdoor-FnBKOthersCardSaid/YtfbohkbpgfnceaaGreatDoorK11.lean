/- The column of BFloat16; what is left of bool and uint8. -/
import Derived.Test.YtfbohkbpgfnceaaGreatDoorK10
import Derived.Test.YtfbohkbpgfnceaaGreatDoorK4
import Derived.Laws.BitsAllLaws
namespace Go.Proofs.YtfbohkbpgfnceaaGreatDoor
set_option linter.unusedVariables false
set_option linter.unusedSimpArgs false
open Go Go.RowKit
theorem and_one (y : Int) (h0 : 0 ≤ y) (h1 : y < 4294967296) : bits .and .u32 y 1 = y % 2 := by
  rw [u32_and y 1 h0 h1 (by decide) (by decide)]
  obtain ⟨n, rfl⟩ := Int.eq_ofNat_of_zero_le h0
  simp [Nat.and_one_is_mod]
/-- a float of 32 bits, rounded to its upper half -/
def bfR (x : Nat) : Int := ((x : Int) + (32767 + (x : Int) / 65536 % 2)) % 4294967296 / 65536
theorem bfR_range (x : Nat) : 0 ≤ bfR x ∧ bfR x < 65536 := by unfold bfR; omega
set_option maxRecDepth 100000 in
set_option maxHeartbeats 400000 in
theorem toBF (x : Nat) (hx : x < 4294967296) (w : World) : Calls Tryz.prog 372 #[.float .f32 x] w fun e w' => e = .returned (.int .u16 (bfR x)) ∧ w' = w := by
  have hf := u32of
  have ha : bits .and .u32 ((x : Int) / 65536) 1 = (x : Int) / 65536 % 2 := and_one _ (by omega) (by omega)
  go_enter Tryz.func372, Tryz.ntmps372
  go_wp2
  go_ret
  exact ⟨by first | rfl | simp [bfR, ha], rfl⟩
set_option maxRecDepth 100000 in
set_option maxHeartbeats 400000 in
theorem ofBF (x : Int) (hx : 0 ≤ x ∧ x < 65536) (w : World) : Calls Tryz.prog 373 #[.int .u16 x] w fun e w' => e = .returned (.float .f32 (x * 65536).toNat) ∧ w' = w := by
  have hf := f32of
  have h1 : x % 4294967296 = x := by omega
  have h2 : x * 65536 % 4294967296 = x * 65536 := by omega
  go_enter Tryz.func373, Tryz.ntmps373
  go_wp2
  go_ret
  exact ⟨by first | rfl | simp [h1, h2], rfl⟩
set_option maxRecDepth 100000 in
set_option maxHeartbeats 400000 in
theorem ColBFloat16_Append (p : Nat) (ao : Option Addr) (n c : Nat) (xs : List Value) (x : Nat) (hx : x < 4294967296) (w : World) (h : Hold w p 273 22 1 ao n c xs) (hn : n ≤ 1000000) :
    Calls Tryz.prog 363 #[.pointer (some ⟨p, 0, none⟩), .float .f32 x] w fun e w' => e = .returned (.tuple #[]) ∧ Grew w w' p 273 22 1 ao (n + 1) (xs ++ [.int .u16 (bfR x)]) := by
  have hc := h.cell
  go_enter Tryz.func363, Tryz.ntmps363
  refine wp_region_split (S := Upd [] w) [(false, 0), (true, 1), (true, 2), (true, 3), (true, 4)] [5, 6] [7, 8, 9] (by kernel_rfl) (by kernel_rfl) (fun _ _ d _ _ h => by cases d <;> exact h) ((Upd.refl _ _).drew) ?_
  simp only [readsAt, opersAt, Option.map_some, List.filterMap_cons, List.filterMap_nil, List.getElem?_toArray, List.getElem?_cons_succ, List.getElem?_cons_zero]
  iterate 5 (refine ⟨_, Or.inl ⟨by rfl, fun w' hS => by first | (have e0 := Upd.cell1 hS hc (by simp); first | (go_simp; done) | (go_simp; with_reducible rfl)) | (go_simp; done) | (go_simp; with_reducible rfl)⟩, ?_⟩; simp only [Act.put, List.setIfInBounds_toArray, List.set_cons_zero, List.set_cons_succ])
  intro L0 hL0
  rw [if_pos (by rfl)]
  go_simp; refine (toBF x hx _).mono ?_; rintro e w1 ⟨rfl, rfl⟩
  refine hL0 _ _ ⟨(Upd.refl [] _).drew, ?_⟩
  clear hL0 L0
  intro L1 hL1
  rw [if_pos (by rfl)]
  go_simp
  refine hL1 _ _ ⟨((Upd.refl [] _).drew).alloc _, ?_⟩
  clear hL1 L1
  try simp only [preThen]
  change wpList _ _ _ [_, _, _] _ _
  go_wp2_with (at_builtin; refine wpList_app1 _ rfl _ _ 273 rfl 22 (.int .u16 0) 1 2 Tryz.underlying273 Tryz.info22 rfl (by decide) (World.ownsRow.drew h.own) rfl [.int .u16 (bfR x)] rfl rfl rfl (by simp [Value.oneCell']) (by decide) (by omega) ?_; intro ao1 c1 w1 hown1 hupd1 hin1; have hc1 := h.cell1 hupd1.ofDrew; have hf1 := h.free1 hupd1.ofDrew)
  go_end0
  exact ⟨rfl, _, _, h.after hown1 hupd1.ofDrew hin1, h.upd hupd1.ofDrew _, hin1⟩
set_option maxRecDepth 100000 in
set_option maxHeartbeats 1000000 in
theorem ColBFloat16_EncodeColumn (ac : Option Addr) (n cc : Nat) (vs : List Int) (bp : Nat) (ao : Option Addr) (m cp : Nat) (bs : List Value) (w : World) (hc : View w 1 ac n (vs.map (Value.int .u16))) (hb : Hold w bp 46 5 1 ao m cp bs)
    (hap : Apart ac bp ao) (hac : ∀ x, x ∈ bk ac → x < w.heap.size) (hn : n ≤ 1000000) (hm : m ≤ 100000000) :
    Calls Tryz.prog 366 #[.slice ac n cc, .pointer (some ⟨bp, 0, none⟩)] w fun e w' => e = .returned (.tuple #[]) ∧ Grew w w' bp 46 5 1 ao (m + n * 2) (bs ++ vs.flatMap (leV 2)) := by
  have hvl : vs.length = n := by have := hc.len; simpa using this
  have hbl := hb.own.len
  by_cases h0 : n = 0
  · subst h0
    have hv0 : vs = [] := List.eq_nil_of_length_eq_zero hvl
    subst hv0
    go_enter Tryz.func366, Tryz.ntmps366
    go_wp2
    refine bodyPost_ret (results_none rfl _ _ _) rfl ?_
    exact ⟨rfl, ao, cp, by simpa using hb, Upd.refl _ _, In.self (fun _ h => h)⟩
  · have h1 : ((n : Int) == 0) = false := beq_eq_false_iff_ne.2 (by omega)
    have hc0 := hb.cell
    go_enter Tryz.func366, Tryz.ntmps366
    go_wp2_with (at_builtin; refine wpList_zeros _ rfl _ _ 26 3 rfl 5 (.int .u8 0) 1 1 .i64 Tryz.underlying26 Tryz.underlying3 Tryz.info5 rfl (by decide) (by simp [Value.cells, Value.oneCell']) hb.own rfl (2 * n) (by omega) rfl (by omega) (by decide) (by omega) ?_; intro ao1 c1 w1 hown1 hupd1 hin1; have hc1 := hb.cell1 hupd1; have hf1 := hb.free1 hupd1)
    have hH1 := hb.after hown1 hupd1 hin1
    have hU1 := hb.upd hupd1 (.slice ao1 (m + 2 * n) c1)
    clear hown1 hupd1 hc1 hf1
    generalize w1.setCell ⟨bp, 0, none⟩ (.slice ao1 (m + 2 * n) c1) = w2 at *
    obtain ⟨g, rfl⟩ := hH1.own.head (by omega)
    go_loopw [5, 30] (fun off i wr => ∃ k : Nat, k ≤ n ∧ i = .int .i64 k ∧ off = .int .i64 (m + 2 * k : Nat) ∧ Hold wr bp 46 5 1 (some ⟨g, 0, none⟩) (m + 2 * n) c1 (bs ++ (vs.take k).flatMap (leV 2) ++ List.replicate (2 * (n - k)) (.int .u8 0)) ∧ Upd (bp :: bk ao) w wr)
      (fun _ i _ => n - (intOf i).toNat)
    case atStart => exact ⟨0, Nat.zero_le _, rfl, rfl, by rw [show (Value.int .u8 0).cells = #[Value.int .u8 0] from rfl, zeroCells1] at hH1; simpa using hH1, hU1⟩
    case round =>
      obtain ⟨k, hk, rfl, rfl, hH, hU⟩ := hrel
      by_cases hlt : k < n
      · have hk0 : ((k : Int) < n) := by omega
        obtain ⟨b, o, rfl, hr, hbb⟩ := hc.at_ (by omega)
        have hbn : b ∉ bp :: bk ao := hap.not b (by simp)
        have hcell : wr.cell? ⟨b, o + k, none⟩ = some (.int .u16 (vs[k]'(by omega))) := (hU.cell hbb hbn).trans (hr k _ (by simp [hvl, hlt]))
        have hcb := hH.cell
        have hcap : m + 2 * k + 2 ≤ c1 := by have := hH.own.cap; omega
        obtain ⟨x, hx⟩ : ∃ x, x = vs[k]'(by omega) := ⟨_, rfl⟩
        rw [← hx] at hcell
        have HX := Lib.hid hx
        clear hx
        go_wp2
        have hwr : IntKind.i64.wrap ((m : Int) + 2 * k + 2) = m + 2 * k + 2 := IntWalk.i64_in _ (by omega)
        refine wp_region_split (S := Upd [] wr) [(true, 0), (true, 1), (true, 2), (true, 3), (true, 4), (true, 5), (true, 6), (true, 7), (true, 8), (true, 9)] [] [10] (by kernel_rfl) (by kernel_rfl) (fun _ _ d _ _ h => by cases d <;> exact h) ((Upd.refl _ _).drew) ?_
        simp only [readsAt, opersAt, Option.map_some, List.filterMap_cons, List.filterMap_nil, List.getElem?_toArray, List.getElem?_cons_succ, List.getElem?_cons_zero]
        iterate 8 (refine ⟨_, Or.inl ⟨by rfl, fun w' hS => by first | (have q1 := Upd.cell1 hS hcb (by simp); first | (go_simp; done) | (go_simp; with_reducible rfl)) | (go_simp; done) | (go_simp; with_reducible rfl)⟩, ?_⟩; simp only [Act.put, List.setIfInBounds_toArray, List.set_cons_zero, List.set_cons_succ])
        refine ⟨_, yields_slice rfl 26 5 1 _ _ _ rfl Tryz.underlying26 (by kernel_rfl) g 0 _ _ rfl _ _ (m + 2 * k) (m + 2 * k + 2) rfl rfl (by omega) (by omega) (by omega) hcap (by omega) (m + 2 * k) 2 (c1 - (m + 2 * k)) (by omega) (by omega) rfl, ?_⟩
        simp only [Act.put, List.setIfInBounds_toArray, List.set_cons_zero, List.set_cons_succ]
        refine ⟨_, Or.inl ⟨by rfl, fun w' hS => by first | (go_simp; done) | (go_simp; with_reducible rfl)⟩, ?_⟩
        simp only [Act.put, List.setIfInBounds_toArray, List.set_cons_zero, List.set_cons_succ]
        simp only [readsThen, preThen]
        change wpList _ _ _ [_] _ _
        clear hwr
        go_wp2_with (go_at_call 218; (with_reducible refine (PutUint16 g (m + 2 * k) 2 _ (m + 2 * n) c1 _ _ _ (World.ownsRow.drew hH.own) ?_ (by omega)).mono ?_); (· have := Nat.mul_le_mul_left 2 (show k + 1 ≤ n by omega); omega); rintro e wx ⟨rfl, hrow, hux⟩; skip)
        have hstep : putAt (bs ++ (vs.take k).flatMap (leV 2) ++ List.replicate (2 * (n - k)) (.int .u8 0)) (m + 2 * k) (leV 2 x) = bs ++ (vs.take (k + 1)).flatMap (leV 2) ++ List.replicate (2 * (n - (k + 1))) (.int .u8 0) := by
          rw [flatMap_take_succ _ _ _ (by omega), ← HX.out]
          refine enc_step (r := 2 * (n - (k + 1))) (m := 2) ?_ (leV_len _ _) ?_
          · congr 1; have : n - k = (n - (k + 1)) + 1 := by omega
            rw [this]; omega
          · rw [List.length_append, flatMap_len _ 2 (leV_len 2), List.length_take]; omega
        rw [hstep] at hrow
        have hux' : Upd [g] wr wx := hux.ofDrew
        have hH' : Hold wx bp 46 5 1 (some ⟨g, 0, none⟩) (m + 2 * n) c1 (bs ++ (vs.take (k + 1)).flatMap (leV 2) ++ List.replicate (2 * (n - (k + 1))) (.int .u8 0)) := ⟨hux'.at hH.blk (fun h => hH.ne (by simpa using h)), hrow, hH.ne⟩
        have hU' : Upd (bp :: bk ao) w wx := hU.trans hux' (fun y hy => by
          simp at hy; subst hy
          rcases hin1 y (by simp) with h | h
          · exact .inl (List.mem_cons_of_mem _ h)
          · exact .inr h)
        clear hstep hrow hux hux' hH hU
        go_roundw
        case rel => exact ⟨k + 1, by omega, by go_num, by simp; omega, hH', hU'⟩
        case measure => simp [intOf]; omega
      · have hk0 : n ≤ k := by omega
        obtain rfl : k = n := by omega
        go_wp2
        go_end0
        refine ⟨rfl, some ⟨g, 0, none⟩, c1, ?_, hU, hin1⟩
        rw [List.take_of_length_le (by omega), Nat.sub_self, Nat.mul_zero, List.replicate_zero, List.append_nil] at hH
        rw [Nat.mul_comm k 2]
        exact hH
set_option maxRecDepth 100000 in
set_option maxHeartbeats 1000000 in
theorem ColBFloat16_DecodeColumn (p rd bf d : Nat) (ao : Option Addr) (n : Nat) (xs : List Int) (hx : ∀ x ∈ xs, (0 : Int) ≤ x ∧ x < 65536) (rest : List Value) (w : World) (h : Rdr w rd bf d ao (xs.flatMap (leV 2) ++ rest)) (hn : xs.length = n) (h0 : 0 < n) (h30 : n ≤ 30)
    (hH : Hold w p 273 22 1 none 0 0 []) (ho : Off p rd bf d ao) :
    Calls Tryz.prog 365 #[.pointer (some ⟨p, 0, none⟩), .pointer (some ⟨rd, 0, none⟩), .int .i64 n] w fun e w' => e = .returned .nilIface ∧ Got w w' p 273 22 1 rd bf d ao n (xs.map (Value.int .u16)) rest := by
  have hfl : (xs.flatMap (leV 2)).length = n * 2 := by rw [flatMap_len _ 2 (leV_len 2), hn]
  obtain ⟨N, hN⟩ : ∃ N, N = n * 2 := ⟨_, rfl⟩
  rw [← hN] at hfl
  have ht : (xs.flatMap (leV 2) ++ rest).take N = xs.flatMap (leV 2) := by rw [List.take_append_of_le_length (by omega), List.take_of_length_le (by omega)]
  have hd : (xs.flatMap (leV 2) ++ rest).drop N = rest := by rw [List.drop_append_of_le_length (by omega), List.drop_of_length_le (by omega), List.nil_append]
  have hLN : N ≤ (xs.flatMap (leV 2) ++ rest).length := by rw [List.length_append]; omega
  have h1 : ((n : Int) == 0) = false := beq_eq_false_iff_ne.2 (by omega)
  have hmul : IntKind.i64.wrap (2 * (n : Int)) = N := by rw [IntWalk.i64_in _ (by omega)]; omega
  have hsub : IntKind.i64.wrap ((N : Int) - 2) = N - 2 := IntWalk.i64_in _ (by omega)
  have hb1 : ((N : Int) - 2) < N := by omega
  have hb0 : 0 ≤ ((N : Int) - 2) := by omega
  have hpl := hH.lt
  have HN := Lib.hid hN
  clear hN
  go_enter Tryz.func365, Tryz.ntmps365
  go_wp2_with (go_at_call 205; apply stopHere)
  show Calls _ _ _ _ _
  refine (ReadRawB rd bf d N _ (by first | rfl | exact hmul | (have := HN.out; omega)) ao _ w h (by have := HN.out; omega) (by have := HN.out; omega) hLN).mono ?_
  rintro e w1 ⟨g, c1, rfl, hR1, hG1, hu1, hi1⟩
  dsimp only
  rw [ht] at hG1
  rw [hd] at hR1
  have hP1 := hH.kept hu1 ho.not (by simp)
  have q0 := hP1.cell
  have hr1 := hG1.own.view 0 (xs.flatMap (leV 2)) (fun j v hj => by rw [Nat.zero_add]; exact hj)
  have hgl : g < w1.heap.size := hG1.own.lt g (by simp)
  obtain ⟨u, hu⟩ : ∃ u, w1.cell? ⟨g, N - 2, none⟩ = some u := by
    obtain ⟨u, hu⟩ : ∃ u, (xs.flatMap (leV 2))[N - 2]? = some u := ⟨(xs.flatMap (leV 2))[N - 2]'(by have := HN.out; omega), by simp⟩
    exact ⟨u, by have := hr1 _ u hu; rwa [Nat.zero_add] at this⟩
  have hcap := hG1.own.cap.1
  go_wp2
  go_loopw [9, 10] (fun v i wr => ∃ (k : Nat) (av : Option Addr) (c : Nat), k ≤ n ∧ i = .int .i64 (2 * k : Nat) ∧ v = .slice av k c ∧ Row wr 22 1 av k c ((xs.take k).map (Value.int .u16)) ∧ Upd [] w1 wr ∧ In [] w1.heap.size av)
    (fun _ i _ => N - (intOf i).toNat)
  case atStart => exact ⟨0, none, 0, Nat.zero_le _, rfl, rfl, Row.nil, Upd.refl _ _, In.nil⟩
  case round =>
    obtain ⟨k, av, c, hk, rfl, rfl, hown, hU, hI⟩ := hrel
    by_cases hlt : k < n
    · have hk0 : (2 : Int) * k ≤ N - 2 := by have := HN.out; omega
      have hwr : IntKind.i64.wrap ((2 : Int) * k + 2) = 2 * k + 2 := IntWalk.i64_in _ (by omega)
      have hpc := hU.range (flat_piece hr1 (leV_len 2) k (by omega)) hgl (by simp)
      have hgl' := Nat.lt_of_lt_of_le hgl hU.size
      obtain ⟨x, hxx⟩ : ∃ x, x = xs[k]'(by omega) := ⟨_, rfl⟩
      rw [← hxx] at hpc
      have hrg := hx x (by rw [hxx]; exact List.getElem_mem _)
      have hcv : x % 65536 = x := by omega
      have HX := Lib.hid hxx
      clear hxx hx
      go_wp2
      refine wp_region_split (S := Upd [] wr) [(false, 0), (true, 1), (true, 2), (true, 3), (true, 4), (true, 5), (true, 6)] [] [7, 8, 9, 10] (by kernel_rfl) (by kernel_rfl) (fun _ _ d _ _ h => by cases d <;> exact h) ((Upd.refl _ _).drew) ?_
      simp only [readsAt, opersAt, Option.map_some, List.filterMap_cons, List.filterMap_nil, List.getElem?_toArray, List.getElem?_cons_succ, List.getElem?_cons_zero]
      iterate 6 (refine ⟨_, Or.inl ⟨by rfl, fun w' hS => by first | (skip; first | (go_simp; done) | (go_simp; with_reducible rfl)) | (go_simp; done) | (go_simp; with_reducible rfl)⟩, ?_⟩; simp only [Act.put, List.setIfInBounds_toArray, List.set_cons_zero, List.set_cons_succ])
      refine ⟨_, yields_slice rfl 26 5 1 _ _ _ rfl Tryz.underlying26 (by kernel_rfl) g 0 _ _ rfl _ _ (2 * k) (2 * k + 2) rfl rfl (by omega) (by omega) (by omega) (by have := HN.out; omega) (by have := HN.out; omega) (2 * k) 2 (c1 - 2 * k) (by omega) (by omega) rfl, ?_⟩
      simp only [Act.put, List.setIfInBounds_toArray, List.set_cons_zero, List.set_cons_succ]
      simp only [readsThen, preThen]
      change wpList _ _ _ [_, _, _, _] _ _
      go_wp2_with (first
        | (go_at_call 217; (refine (Uint16at g (2 * k) _ x _ ((Upd.refl [] wr).drew.range hpc hgl' (by simp)) hgl').mono ?_); rintro e w2 ⟨rfl, hu2⟩; have hown2 := hown.upd hu2.ofDrew (by simp))
        | (at_builtin; refine wpList_app1 _ rfl _ _ 273 rfl 22 (.int .u16 0) 1 2 Tryz.underlying273 Tryz.info22 rfl (by decide) hown2 rfl [.int .u16 x] rfl rfl rfl (by simp [Value.oneCell']) (by decide) (by omega) ?_; intro av3 c3 w3 hown3 hupd3 hin3))
      have hU2 : Upd [] w1 w2 := hU.trans hu2.ofDrew (fun _ h => .inl h)
      have hU3 : Upd [] w1 w3 := hU2.own hupd3 hI
      have hI3 : In [] w1.heap.size av3 := hI.step hin3 hU2.size
      have hR3 : Row w3 22 1 av3 (k + 1) c3 ((xs.take (k + 1)).map (Value.int .u16)) := by
        rw [List.take_succ_eq_append_getElem (by omega), ← HX.out, List.map_append]
        exact hown3
      clear hown hown2 hown3 hpc hupd3 hin3
      go_roundw
      case rel => exact ⟨k + 1, av3, c3, by omega, by simp; omega, rfl, hR3, hU3, hI3⟩
      case measure => have := HN.out; simp [intOf]; omega
    · have hk0 : ¬ ((2 : Int) * k ≤ N - 2) := by have := HN.out; omega
      obtain rfl : k = n := by omega
      rw [List.take_of_length_le (by omega)] at hown
      have hP2 := hP1.kept hU (by simp) (by simp)
      have p0 := hP2.cell
      have pf := hP2.free
      go_wp2
      go_ret
      have hpo : Off p rd bf d (some ⟨g, 0, none⟩) := ho.step hi1 hpl
      have hs1 : w.heap.size ≤ w1.heap.size := hu1.size
      have hne : p ∉ bk av := fun hp => by
        rcases hI p hp with h | h
        · simp at h
        · omega
      have hsc := (Upd.refl [p] wr).setCell (p := ⟨p, 0, none⟩) (Value.slice av k c) (by simp)
      refine ⟨rfl, av, c, some ⟨g, 0, none⟩, Hold.stored hP2.blk hown hne, (hR1.kept hU (by simp)).keptK hsc hpo, ?_, hI.le hs1, hi1, fun y hy hy' => ?_⟩
      · exact ((hu1.mono (fun y hy => .inl (List.mem_cons_of_mem _ hy))).trans hU (fun _ h => by simp at h)).setCell _ (by simp)
      · have hyl : w1.heap.size ≤ y := by
          rcases hI y hy with h | h
          · simp at h
          · exact h
        have hl1 := hR1.ltr
        have hl2 := hR1.ltb
        simp [rdF] at hy'
        rcases hy' with h | h | h <;> omega
set_option maxRecDepth 100000 in
set_option maxHeartbeats 1000000 in
theorem ColUInt8_DecodeColumn (p rd bf d : Nat) (ao : Option Addr) (n : Nat) (xs : List Value) (hx : AllBytes xs) (rest : List Value) (w : World) (h : Rdr w rd bf d ao (xs ++ rest)) (hn : xs.length = n) (h0 : 0 < n) (h30 : n ≤ 30)
    (hH : Hold w p 164 5 1 none 0 0 []) (ho : Off p rd bf d ao) :
    Calls Tryz.prog 275 #[.pointer (some ⟨p, 0, none⟩), .pointer (some ⟨rd, 0, none⟩), .int .i64 n] w fun e w' => e = .returned .nilIface ∧ Got w w' p 164 5 1 rd bf d ao n xs rest := by
  have ht : (xs ++ rest).take n = xs := by rw [List.take_append_of_le_length (by omega), List.take_of_length_le (by omega)]
  have hd : (xs ++ rest).drop n = rest := by rw [List.drop_append_of_le_length (by omega), List.drop_of_length_le (by omega), List.nil_append]
  have hLN : n ≤ (xs ++ rest).length := by rw [List.length_append]; omega
  have h1 : ((n : Int) == 0) = false := beq_eq_false_iff_ne.2 (by omega)
  have hpl := hH.lt
  have Hn := Lib.hid hn
  clear hn
  go_enter Tryz.func275, Tryz.ntmps275
  go_wp2_with (go_at_call 205; apply stopHere)
  show Calls _ _ _ _ _
  refine (ReadRawB rd bf d n _ rfl ao _ w h h0 (by omega) hLN).mono ?_
  rintro e w1 ⟨g, c1, rfl, hR1, hG1, hu1, hi1⟩
  dsimp only
  rw [ht] at hG1
  rw [hd] at hR1
  have hP1 := hH.kept hu1 ho.not (by simp)
  have q0 := hP1.cell
  have hgl : g < w1.heap.size := hG1.own.lt g (by simp)
  have hr1 := hG1.own.view 0 xs (fun j v hj => by rw [Nat.zero_add]; exact hj)
  go_wp2_with (at_builtin; refine wpList_app _ rfl _ _ 164 26 rfl 5 (.int .u8 0) 1 1 Tryz.underlying164 Tryz.info5 rfl (by decide) Row.nil rfl (Src.ofRange Tryz.underlying26 (by rw [Nat.mul_one]; exact Hn.out) hr1 hx.one) rfl (by decide) (by omega) ?_; intro av c2 w2 hown hupd hin; have hP2 := hP1.kept hupd (by simp) (by simp); have p0 := hP2.cell; have pf := hP2.free)
  go_ret
  rw [Nat.zero_add, List.nil_append] at hown
  have hu2 : Upd [] w1 w2 := hupd.mono (by simp)
  have hI : In [] w1.heap.size av := hin.mono (Nat.le_refl _) (by simp)
  have hpo : Off p rd bf d (some ⟨g, 0, none⟩) := ho.step hi1 hpl
  have hs1 : w.heap.size ≤ w1.heap.size := hu1.size
  have hne : p ∉ bk av := fun hp => by
    rcases hI p hp with h | h
    · simp at h
    · omega
  have hsc := (Upd.refl [p] w2).setCell (p := ⟨p, 0, none⟩) (Value.slice av (0 + n) c2) (by simp)
  rw [Nat.zero_add] at hsc
  refine ⟨rfl, av, c2, some ⟨g, 0, none⟩, by simpa using Hold.stored hP2.blk hown hne, by simpa using (hR1.kept hu2 (by simp)).keptK hsc hpo, ?_, hI.le hs1, hi1, fun y hy hy' => ?_⟩
  · have := ((hu1.mono (fun y hy => .inl (List.mem_cons_of_mem _ hy))).trans hu2 (fun _ h => by simp at h)).setCell (F := p :: rdF rd bf ao) (p := ⟨p, 0, none⟩) (Value.slice av n c2) (by simp)
    simpa using this
  · have hyl : w1.heap.size ≤ y := by
      rcases hI y hy with h | h
      · simp at h
      · exact h
    have hl1 := hR1.ltr
    have hl2 := hR1.ltb
    simp [rdF] at hy'
    rcases hy' with h | h | h <;> omega
set_option maxRecDepth 100000 in
set_option maxHeartbeats 1000000 in
theorem ColBool_DecodeColumn (p rd bf d : Nat) (ao : Option Addr) (n : Nat) (xs : List Bool) (rest : List Value) (w : World) (h : Rdr w rd bf d ao (xs.map bitV ++ rest)) (hn : xs.length = n) (h0 : 0 < n) (h30 : n ≤ 30)
    (hH : Hold w p 276 4 1 none 0 0 []) (ho : Off p rd bf d ao) :
    Calls Tryz.prog 375 #[.pointer (some ⟨p, 0, none⟩), .pointer (some ⟨rd, 0, none⟩), .int .i64 n] w fun e w' => e = .returned .nilIface ∧ Got w w' p 276 4 1 rd bf d ao n (xs.map (Value.bool)) rest := by
  have hfl : (xs.map bitV).length = n := by rw [List.length_map, hn]
  have ht : (xs.map bitV ++ rest).take n = xs.map bitV := by rw [List.take_append_of_le_length (by omega), List.take_of_length_le (by omega)]
  have hd : (xs.map bitV ++ rest).drop n = rest := by rw [List.drop_append_of_le_length (by omega), List.drop_of_length_le (by omega), List.nil_append]
  have hLN : n ≤ (xs.map bitV ++ rest).length := by rw [List.length_append]; omega
  have hpl := hH.lt
  have Hn := Lib.hid hn
  clear hn
  go_enter Tryz.func375, Tryz.ntmps375
  go_wp2_with (go_at_call 205; apply stopHere)
  show Calls _ _ _ _ _
  refine (ReadRawB rd bf d n _ rfl ao _ w h h0 (by omega) hLN).mono ?_
  rintro e w1 ⟨g, c1, rfl, hR1, hG1, hu1, hi1⟩
  dsimp only
  rw [ht] at hG1
  rw [hd] at hR1
  have hP1 := hH.kept hu1 ho.not (by simp)
  have q0 := hP1.cell
  have hr1 := hG1.own.view 0 (xs.map bitV) (fun j v hj => by rw [Nat.zero_add]; exact hj)
  have hgl : g < w1.heap.size := hG1.own.lt g (by simp)
  go_wp2_with (at_builtin; refine wpList_zeros _ rfl _ _ 276 3 rfl 4 (.bool false) 1 1 .i64 Tryz.underlying276 Tryz.underlying3 Tryz.info4 rfl (by decide) (by simp [Value.cells, Value.oneCell']) Row.nil rfl n rfl rfl (by omega) (by decide) (by omega) ?_; intro av1 cv1 w2 hown2 hupd2 hin2)
  have hu2 : Upd [] w1 w2 := hupd2.mono (by simp)
  rw [Nat.zero_add, List.nil_append, show (Value.bool false).cells = #[Value.bool false] from rfl, zeroCells1] at hown2
  have hI2 : In [] w1.heap.size av1 := hin2.mono (Nat.le_refl _) (by simp)
  obtain ⟨gv, rfl⟩ := hown2.head h0
  have hgv : w1.heap.size ≤ gv := by
    rcases hI2 gv (by simp) with h | h
    · simp at h
    · exact h
  have hr2 := hu2.range hr1 hgl (by simp)
  have hP2 := hP1.kept hu2 (by simp) (by simp)
  go_loopw [29] (fun i wr => ∃ k : Nat, k ≤ n ∧ i = .int .i64 k ∧ Row wr 4 1 (some ⟨gv, 0, none⟩) n cv1 (fill (Value.bool) (.bool false) xs n k) ∧ Upd [gv] w2 wr)
    (fun i _ => n - (intOf i).toNat)
  case atStart => exact ⟨0, Nat.zero_le _, rfl, by simpa [fill] using hown2, Upd.refl _ _⟩
  case round =>
    obtain ⟨k, hk, rfl, hown, hU⟩ := hrel
    by_cases hlt : k < n
    · have hk0 : (k : Int) < n := by omega
      obtain ⟨x, hxx⟩ : ∃ x, x = xs[k]'(by have := Hn.out; omega) := ⟨_, rfl⟩
      have hcb : wr.cell? ⟨g, k, none⟩ = some (bitV x) := by
        rw [hU.cell (Nat.lt_of_lt_of_le hgl hu2.size) (by simp; omega)]
        have := hr2 k (bitV x) (by rw [List.getElem?_map, List.getElem?_eq_getElem (by have := Hn.out; omega), ← hxx]; rfl)
        rwa [Nat.zero_add] at this
      obtain ⟨uo, _, huo⟩ := hown.cell' k (by omega)
      have hfo := hown.free k
      have hst := hown.stored1 k (.bool x)
      have hls := fill_step Value.bool (.bool false) xs n k hlt Hn.out
      rw [← hxx] at hls
      rw [hls] at hst
      have hU' : Upd [gv] w2 (wr.setCell ⟨gv, k, none⟩ (.bool x)) := hU.setCell _ (by simp)
      have Hst := Lib.hid hst
      clear hxx hown hls hst
      cases x
      · have hcz : wr.cell? ⟨g, k, none⟩ = some (.int .u8 0) := hcb
        clear hcb
        go_wp2
        go_roundw
        case rel => exact ⟨k + 1, by omega, by go_num, Hst.out, hU'⟩
        case measure => simp [intOf]; omega
      · have hcz : wr.cell? ⟨g, k, none⟩ = some (.int .u8 1) := hcb
        clear hcb
        go_wp2
        go_roundw
        case rel => exact ⟨k + 1, by omega, by go_num, Hst.out, hU'⟩
        case measure => simp [intOf]; omega
    · have hk0 : ¬ ((k : Int) < n) := by omega
      obtain rfl : k = n := by omega
      rw [fill_end _ _ _ _ Hn.out] at hown
      have hgp : p ∉ [gv] := by simp; have := hu1.size; omega
      have hP3 := hP2.kept hU hgp (by simp)
      have p0 := hP3.cell
      have pf := hP3.free
      go_wp2
      go_ret
      have hpo : Off p rd bf d (some ⟨g, 0, none⟩) := ho.step hi1 hpl
      have hs1 : w.heap.size ≤ w1.heap.size := hu1.size
      have hsc := (Upd.refl [p] wr).setCell (p := ⟨p, 0, none⟩) (Value.slice (some ⟨gv, 0, none⟩) k cv1) (by simp)
      have hl1 := hR1.ltr
      have hl2 := hR1.ltb
      have hl3 := hR1.dlt
      have hR3 := (hR1.kept hu2 (by simp)).kept hU (by simp; omega)
      refine ⟨rfl, some ⟨gv, 0, none⟩, cv1, some ⟨g, 0, none⟩, Hold.stored hP3.blk hown (by simpa using hgp), hR3.keptK hsc hpo, ?_, fun y hy => .inr (by simp at hy; omega), hi1, fun y hy hy' => ?_⟩
      · exact (((hu1.mono (fun y hy => .inl (List.mem_cons_of_mem _ hy))).trans hu2 (fun _ h => by simp at h)).trans hU (fun y hy => .inr (by simp at hy; omega))).setCell _ (by simp)
      · simp [rdF] at hy hy'
        omega
end Go.Proofs.YtfbohkbpgfnceaaGreatDoor
