/- The law's walk: laws.FnBKBack answers true. -/
import Derived.Test.YteimeeepcfcfcaaGreatDoorLB1
import Derived.Test.YteimeeepcfcfcaaGreatDoorBB
import Derived.Test.YteimeeepcfcfcaaGreatDoorFX
import Derived.Laws.StructEq
import Derived.Laws.IdiomStrings
import Derived.Laws.Cover3
namespace Go.Proofs.YteimeeepcfcfcaaGreatDoor
set_option maxRecDepth 100000
set_option maxHeartbeats 2000000
set_option linter.unusedVariables false
set_option linter.unusedSimpArgs false
open Go Go.RowKit
theorem eqNil (a : Option Addr) (l c : Nat) (w : World) : (binOp .eql 24 (.slice a l c) (.slice none 0 0)).run Tryz.prog w = .ok (.bool a.isNone) w := by
  have h := run_equal_slice_nil (P := Tryz.prog) w 24 5 a l c Tryz.underlying24
  simp [binOp, h]
theorem cloneB (a : Addr) (n c : Nat) (bs : List Value) (w : World) (hv : View w 1 (some a) n bs) (h1 : ∀ u ∈ bs, u.oneCell' = true) (h0 : 0 < n) (hn : n ≤ 100000) :
    Calls Tryz.prog 9 #[.slice (some a) n c] w fun e w' => ∃ g c', e = .returned (.slice (some ⟨g, 0, none⟩) n c') ∧ Row w' 5 1 (some ⟨g, 0, none⟩) n c' bs ∧ Upd [] w w' ∧ w.heap.size ≤ g := by
  have hl := hv.len
  have hq := eqNil (some a) n c
  go_enter Tryz.func9, Tryz.ntmps9
  have hrow : Row (w.alloc (.cells #[] 5)) 5 1 (some ⟨w.heap.size, 0, none⟩) 0 0 [] := Row.of _ (heap_alloc_new _ _) (Nat.le_refl _) (by decide) rfl rfl
  have u1 := (Upd.refl [] w).alloc (Obj.cells #[] 5)
  have hv1 := hv.upd u1 (by simp)
  have hsrc : Src Tryz.prog 1 24 (.slice (some a) n c) n bs (w.alloc (.cells #[] 5)) := by
    obtain ⟨b, o, h, hr, hb⟩ := hv1.at_ (by omega)
    cases h
    exact Src.ofRange Tryz.underlying24 hl hr h1
  go_wp2_with (at_builtin; refine wpList_app _ rfl (.tmp 5) (.tmp 6) 24 24 rfl 5 (.int .u8 0) 1 1 Tryz.underlying24 Tryz.info5 rfl (by decide) hrow rfl hsrc rfl (by decide) (by omega) ?_; intro ao1 c1 w2 hown1 hupd1 hin1)
  have hown2 : Row w2 5 1 ao1 n c1 bs := by simpa using hown1
  obtain ⟨g, rfl⟩ := hown2.head h0
  go_ret
  refine ⟨g, c1, by simp, hown2, u1.trans hupd1 (fun y hy => by simp at hy; exact .inr (by omega)), ?_⟩
  rcases hin1 g (by simp) with h | h
  · simp at h; omega
  · simp at h; omega
theorem View.src {w : World} {ao : Option Addr} {n c : Nat} {bs : List Value} (hv : View w 1 ao n bs) (h1 : ∀ u ∈ bs, u.oneCell' = true) : Src Tryz.prog 1 24 (.slice ao n c) n bs w := by
  have hl := hv.len
  by_cases h0 : n = 0
  · subst h0
    obtain rfl : bs = [] := List.eq_nil_of_length_eq_zero (by simpa using hl)
    cases ao with
    | none => exact Src.ofNil _ Tryz.underlying24 _
    | some a => exact Src.ofSlice _ Tryz.underlying24 a 0 c [] rfl (by simp) (by simp)
  · obtain ⟨b, o, rfl, hr, hb⟩ := hv.at_ (by omega)
    exact Src.ofRange Tryz.underlying24 hl hr h1
theorem Tryz.info34 : (Tryz.prog.info? 34).map (fun i => (i.zero, i.size, i.bytes)) = some (some (.agg #[.string "".toUTF8, .int .i64 0, .slice none 0 0]), 3, 48) := by kernel_rfl
theorem bareC_one (E : ByteArray) (bs : List Bc) : ∀ u ∈ bs.flatMap (bareC E), u.oneCell' = true := fun u hu => by
  obtain ⟨x, _, hx⟩ := List.mem_flatMap.1 hu
  simp only [bareC, List.mem_cons, List.not_mem_nil, or_false] at hx
  rcases hx with rfl | rfl | rfl <;> rfl
set_option maxHeartbeats 4000000 in
theorem bkBack (ov : Bool) (b : Int) (hb : -2147483648 ≤ b ∧ b < 2147483648) (x : Int) (hx : 0 ≤ x ∧ x < 65536) (a0 : Option Addr) (c0 : Nat) (xs : List Rc) (ab : Option Addr) (nb cb : Nat) (ys : List Value) (hyl : ys.length = nb) (z : Int) (hz : 0 ≤ z ∧ z < 65536) (w : World) (h1 : Rcs w a0 xs) (hyv : View w 1 ab nb ys) (hyb : AllBytes ys) (hw : Wds w) :
    Calls Tryz.prog 3 #[.bool ov, .int .i32 b, .int .u16 x, .slice a0 xs.length c0, .slice ab nb cb, .int .u16 z] w fun e w' => e = .returned (.bool true) ∧ Upd [] w w' := by
  obtain ⟨v, hv⟩ : ∃ v, v = 50000 + x % 4501 := ⟨_, rfl⟩
  have hpv := pkVersion x hx.1 hx.2
  rw [← hv] at hpv
  clear hv hx
  go_enter Tryz.func3, Tryz.ntmps3
  go_wp2_with (go_at_call 4; apply stopHere)
  show Calls _ _ _ _ _
  refine (zzFits11 a0 c0 xs _ h1).mono ?_
  rintro e w1 ⟨⟨b1, rfl⟩, hU1⟩
  dsimp only
  cases b1
  · go_wp2
    go_ret
    exact ⟨rfl, hU1⟩
  by_cases h47 : (2147483647 : Int) < nb
  · go_wp2
    go_ret
    exact ⟨rfl, hU1⟩
  go_wp2_with (go_at_call 5; apply stopHere)
  show Calls _ _ _ _ _
  refine (bkFit a0 c0 xs _ (h1.upd hU1) (hw.upd hU1)).mono ?_
  rintro e w2 ⟨⟨b2, rfl, hf1⟩, hu2⟩
  have hU2 : Upd [] w w2 := hU1.trans hu2 (fun _ h => .inl h)
  clear hU1 hu2
  dsimp only
  cases b2
  · clear hf1
    go_wp2
    go_ret
    exact ⟨rfl, hU2⟩
  replace hf1 := hf1 rfl
  by_cases h9 : (9 : Int) < nb
  · go_wp2
    go_ret
    exact ⟨rfl, hU2⟩
  have hok1 := hf1.okB h1.rok
  have hl1 : (xs.map Rc.bc).length = xs.length := List.length_map _
  have hx5 := hf1.n1
  have hx0 := hf1.n0
  have hsh : ∀ x ∈ xs.map Rc.bc, KdShort x.K := fun x hx => by
    obtain ⟨y, hy, rfl⟩ := List.mem_map.1 hx
    exact kd_short y.kind (hf1.k y hy).1 (hf1.k y hy).2
  have E1 := fun (W : World) (hW : Rcs W a0 xs) => BKEncode_K ov b v hb (rowsOf xs) hf1.r1 a0 c0 (xs.map Rc.bc) (by omega) hok1 hf1.rnB W (hW.bcs hf1)
  have D1 := fun (W : World) (hW : Rcs W a0 xs) (d N c : Nat) => BKDecode_K ov b v hb (rowsOf xs) hf1.r0 hf1.r1 d 0 N c ys a0 c0 (xs.map Rc.bc) (by omega) (by omega) hok1 hf1.rnB hf1.nmB W (hW.bcs hf1).view
  have D2 := fun (W : World) (ac : Option Addr) (cc d N c : Nat) => BKDecode_B ⟨#[]⟩ (by decide) ov b v hb (rowsOf xs) hf1.r0 hf1.r1 d 0 N c ys ac cc (xs.map Rc.bc) (by omega) (by omega) hok1 hf1.rnB hf1.nmB W
  have D3 := fun (W : World) (hW : Rcs W a0 xs) (d m c : Nat) => BKDecode_cut ov b v hb (rowsOf xs) hf1.r0 hf1.r1 d 0 m c a0 c0 (xs.map Rc.bc) (by omega) hok1 hf1.rnB hf1.nmB hsh W (hW.bcs hf1).view
  have hA0 := (blkB_len (v := v) (ov := ov) (b := b) (R := rowsOf xs) hok1).2
  have hA1 := (blkB_len (v := v) (ov := ov) (b := b) (R := rowsOf xs) hok1).1
  have hAb := blkB_bytes (v := v) (ov := ov) (b := b) (R := rowsOf xs) hok1 (by omega) hf1.r1
  rw [hl1] at E1 D1 D2 D3 hA1
  generalize blkB v ov b (rowsOf xs) (xs.map Rc.bc) = YA at *
  obtain ⟨NA, hNA⟩ : ∃ N, N = YA.length := ⟨_, rfl⟩
  rw [← hNA] at hA0 hA1 D3
  have HA := Lib.hid hNA
  have HY := Lib.hid hyl
  clear hNA hyl hsh
  have hA9 : NA ≤ 100000 := by omega
  have hn0 : ((NA : Int) == 0) = false := beq_eq_false_iff_ne.2 (by omega)
  have hr1 := h1.upd hU2
  have I1 := fun (W : World) (hW : Rcs W a0 xs) => bkInfo ov b hb a0 c0 xs hx0 W hW
  go_wp2_with (first
    | (go_at_call 6; (refine (hpv _).mono ?_); rintro e w5 ⟨rfl, hw5⟩; subst hw5)
    | (go_at_call 7; apply stopHere))
  show Calls _ _ _ _ _
  refine (I1 _ hr1).mono ?_
  rintro e w6 ⟨rfl, hu6⟩
  have hU6 := hU2.trans hu6 (fun _ h => .inl h)
  obtain ⟨k6, u6, s6⟩ := alloc_facts w6 (Obj.cells #[.bool false, .int .i64 0, .int .i64 0, .int .i64 0] 28)
  clear hU2 hu6 hr1 I1
  simp only [headV]
  go_wp2_with (first
    | ((with_reducible show wpList _ _ _ _ _ _); refine wpList_store_blk rfl 28 _ _ rfl (b := w6.heap.size) rfl k6 (cs := [.bool ov, .int .i64 b, .int .i64 xs.length, .int .i64 (rowsOf xs)]) rfl rfl (by kernel_rfl) (by simp [Value.oneCell']) ?_; intro w7 hb7 hu7; simp only [Act.put]; have r7 := rangeAt_blk (cs := [.bool ov, .int .i64 b, .int .i64 xs.length, .int .i64 (rowsOf xs)]) hb7; have hU7 : Upd [] w w7 := (hU6.trans u6 (fun _ h => .inl h)).trans hu7 (fun y hy => by simp at hy; have := hU6.size; exact .inr (by omega)))
    | ((with_reducible show wpList _ _ _ _ _ _); refine wpList_load_mid rfl 28 _ rfl w6.heap.size 0 rfl [.bool ov, .int .i64 b, .int .i64 xs.length, .int .i64 (rowsOf xs)] _ r7 Tryz.underlying28 rfl (by kernel_rfl) ?_)
    | (go_at_call 8; apply stopHere))
  show Calls _ _ _ _ _
  refine (E1 _ (h1.upd hU7)).mono ?_
  rintro e w8 ⟨g1, cg1, rfl, hR8, hu8, hg8⟩
  rw [← HA.out] at hR8 ⊢
  have hi7 : w6.heap.size < w7.heap.size := lt_of_block hb7
  have hb8 := hu8.at hb7 (by simp)
  have hi8 : w6.heap.size < w8.heap.size := lt_of_block hb8
  have hU8 := hU7.trans hu8 (fun _ h => .inl h)
  have hg1 := hR8.lt g1 (by simp)
  have hcap := hR8.cap.1
  clear r7 hb7 hu7 k6 u6 hU6 hU7 hu8 E1 hi7
  dsimp only
  obtain ⟨n, hnn⟩ : ∃ n, n = xs.length := ⟨_, rfl⟩
  rw [← hnn] at D1 D2 D3 hx5 hx0 hl1 hb8 ⊢
  have HN := Lib.hid hnn
  clear hnn
  go_wp2
  go_loopw [17, 72] (fun v i wr => ∃ (k : Nat) (ao : Option Addr) (c : Nat), k ≤ n ∧ i = .int .i64 k ∧ v = .slice ao k c ∧ Row wr 34 3 ao k c (((xs.map Rc.bc).take k).flatMap (bareC ⟨#[]⟩)) ∧ Upd [] w8 wr ∧ In [] w8.heap.size ao)
    (fun _ i _ => n - (intOf i).toNat)
  case atStart => exact ⟨0, none, 0, Nat.zero_le _, rfl, rfl, Row.nil, Upd.refl _ _, In.nil⟩
  case round =>
    obtain ⟨k, ao, c, hk, rfl, rfl, hR, hU, hI⟩ := hrel
    by_cases hlt : k < n
    · have hk0 : ((k : Int) < n) := by omega
      have hkx : k < xs.length := by have := HN.out; omega
      have hkb : k < (xs.map Rc.bc).length := by omega
      obtain ⟨bk0, o0, rfl, hrr, hbb⟩ := (h1.view.upd (hU8.trans hU (fun _ h => .inl h)) (by simp)).at_ (by have := HN.out; omega)
      have hcl := cells_at Rc.cells 3 Rc.cells_len hrr k hkx
      have hbx : (xs.map Rc.bc)[k] = xs[k].bc := by simp
      have hkK : (xs[k].bc).K.kind = xs[k].kind := by first | rfl | (exact (kd_ok _ (hf1.k _ (List.getElem_mem _)).1 (hf1.k _ (List.getElem_mem _)).2).2)
      have d0 := hcl 0 (by omega)
      have d1 := hcl 1 (by omega)
      have d2 := hcl 2 (by omega)
      clear hcl hrr
      simp only [Rc.cells, Nat.add_zero, List.getElem?_cons_zero, List.getElem?_cons_succ] at d0 d1 d2
      obtain ⟨k1, u1, s1⟩ := alloc_facts wr (Obj.cells #[Value.string xs[k].nm, Value.int IntKind.i64 xs[k].kind, Value.slice xs[k].ar xs[k].rs.length xs[k].cp] 34)
      have kc := (cellAt k1 1).trans rfl
      go_wp2_with (at_builtin; ((refine wpList_app1 _ rfl _ _ 23 rfl 34 (.agg #[.string "".toUTF8, .int .i64 0, .slice none 0 0]) 3 48 Tryz.underlying23 Tryz.info34 rfl (by decide) (hR.upd u1 (by simp)) rfl [.string ⟨#[]⟩, .int .i64 xs[k].kind, .slice none 0 0] rfl rfl (by rw [s1]; rfl) (by simp [Value.oneCell']) (by decide) (by omega) ?_)); intro ao3 c3 w3 hown3 hupd3 hin3)
      have hU3 : Upd [] w8 w3 := (hU.trans u1 (fun _ h => .inl h)).own hupd3 hI
      have hI3 : In [] w8.heap.size ao3 := hI.step hin3 (hU.trans u1 (fun _ h => .inl h)).size
      have hR3 : Row w3 34 3 ao3 (k + 1) c3 (((xs.map Rc.bc).take (k + 1)).flatMap (bareC ⟨#[]⟩)) := by
        rw [List.take_succ_eq_append_getElem hkb, List.flatMap_append, List.flatMap_singleton, hbx, bareC, hkK]
        exact hown3
      go_roundw
      case rel => exact ⟨k + 1, ao3, c3, by omega, by go_num, rfl, hR3, hU3, hI3⟩
      case measure => simp [intOf]; omega
    · have hk0 : ¬ ((k : Int) < n) := by omega
      obtain rfl : k = n := by omega
      rw [List.take_of_length_le (by omega)] at hR
      have hR9 := hR8.upd hU (by simp)
      have hb9 := hU.at hb8 (by simp)
      have hU9 := hU8.trans hU (fun _ h => .inl h)
      have hs8 := hU8.size
      clear hlt
      go_wp2_with (go_at_call 9; apply stopHere)
      show Calls _ _ _ _ _
      refine (cloneB ⟨g1, 0, none⟩ NA cg1 YA _ hR9.toView hAb.one (by omega) (by omega)).mono ?_
      rintro e w10 ⟨g3, cg3, rfl, hC10, hu10, hg10⟩
      have hR10 := hR9.upd hu10 (by simp)
      have hb10 := hb9 |> fun h => hu10.at h (by simp)
      have hV10 := hR.toView.upd hu10 (by simp)
      have hU10 := hU9.trans hu10 (fun _ h => .inl h)
      have hsr := hU.size
      have hlv := hR.lt
      have hy10 := hyv.upd hU10 (by simp)
      dsimp only
      go_wp2_with (first
        | (at_builtin; ((refine wpList_app _ rfl _ _ 24 24 rfl 5 (.int .u8 0) 1 1 Tryz.underlying24 Tryz.info5 rfl (by decide) hC10 rfl (hy10.src hyb.one) rfl (by decide) (by omega) ?_)); intro ao11 c11 w11 hown11 hupd11 hin11)
        | (go_at_call 10; apply stopHere))
      show Calls _ _ _ _ _
      obtain ⟨g4, rfl⟩ := hown11.head (by omega)
      have hne : ∀ y, y < wr.heap.size → y ∉ [g3] := fun y hy => by simp; omega
      have hU11 : Upd [] w w11 := hU10.trans hupd11 (fun y hy => by simp at hy; have := hU9.size; exact .inr (by omega))
      have hR11 := hR10.upd hupd11 (by simpa using hne g1 (by omega))
      have hb11 := hupd11.at hb10 (by simpa using hne _ (by omega))
      have hV11 := hV10.upd hupd11 (fun y hy => by simpa using hne y (hlv y hy))
      have hrg := hown11.view 0 (YA ++ ys) (fun j v hj => by rw [Nat.zero_add]; exact hj)
      have hg4l := hown11.lt g4 (by simp)
      have hlA : NA + nb = (YA ++ ys).length := by rw [List.length_append, ← HA.out, HY.out]
      have hcap4 := hown11.cap.1
      clear hown11 hin11 hC10 hR10 hb10 hV10 hupd11 hU10 hR9 hb9 hU9 hy10 hR hR8 hb8
      have hI11 := hb11
      have HL := Lib.hid hlA
      clear hlA
      have hd := D1 _ (h1.upd hU11) g4 (NA + nb) c11 hrg HL.out hcap4 hyb hg4l
      with_reducible refine hd.mono ?_
      rintro e w12 hdec
      obtain ⟨ao12, c12, vs12, rfl, hVa12, hu12⟩ := hdec.rows
      rw [HY.out]
      rw [← HN.out] at hVa12 ⊢
      have hU12 := hU11.trans hu12 (fun _ h => .inl h)
      have hR12 := hR11.upd hu12 (by simp)
      have hI12 := hu12.at hI11 (by simp)
      have hlo12 := hu12.size
      have hBv12 := hV11.upd hu12 (by simp)
      have hrg12 := hu12.range hrg hg4l (by simp)
      have hl12 : g4 < w12.heap.size := Nat.lt_of_lt_of_le hg4l hu12.size
      obtain ⟨k12, u12, s12⟩ := alloc_facts w12 (Obj.cells #[.bool false, .int .i64 0, .int .i64 0, .int .i64 0] 28)
      clear hd hdec hrg hg4l hU11 hR11 hb11 hI11 hV11 hu12 D1
      simp only [headV]
      go_wp2_with (first
        | ((with_reducible show wpList _ _ _ _ _ _); refine wpList_store_blk rfl 28 _ _ rfl (b := w12.heap.size) rfl k12 (cs := [.bool (knB v ov), .int .i64 (knI v b), .int .i64 k, .int .i64 (rowsOf xs)]) rfl rfl (by kernel_rfl) (by simp [Value.oneCell']) ?_; intro w13 hb13 hu13; simp only [Act.put])
        | (go_at_call 10; apply stopHere))
      show Calls _ _ _ _ _
      have hu1213 : Upd [] w12 w13 := u12.trans hu13 (fun y hy => by simp at hy; exact .inr (by omega))
      have hU13 := hU12.trans hu1213 (fun _ h => .inl h)
      have hR13 := hR12.upd hu1213 (by simp)
      have hI13 := hu1213.at hI12 (by simp)
      have hlo13 := hu1213.size
      have hVa13 := hVa12.upd hu1213
      have hBv13 := hBv12.upd hu1213 (by simp)
      have hrg13 := hu1213.range hrg12 hl12 (by simp)
      have hl13 : g4 < w13.heap.size := Nat.lt_of_lt_of_le hl12 hu1213.size
      have hG13 := hb13
      clear hrg12 hl12 hU12 hR12 hI12 hBv12 hu1213 hu13 k12 u12 hVa12
      have hd2 := D2 w13 ao c g4 (NA + nb) c11 hBv13 hrg13 HL.out hcap4 hyb hl13
      with_reducible refine hd2.mono ?_
      rintro e w14 hdec
      obtain ⟨ao14, c14, vs14, rfl, hVb14, hu14⟩ := hdec.rows
      rw [HY.out]
      rw [← HN.out] at hVb14 ⊢
      have hU14 := hU13.trans hu14 (fun _ h => .inl h)
      have hR14 := hR13.upd hu14 (by simp)
      have hI14 := hu14.at hI13 (by simp)
      have hlo14 := hu14.size
      have hVa14 := hVa13.upd hu14
      have hG14 := hu14.at hG13 (by simp)
      obtain ⟨k14, u14, s14⟩ := alloc_facts w14 (Obj.cells #[.bool false, .int .i64 0, .int .i64 0, .int .i64 0] 28)
      clear hd2 hdec hrg13 hl13 hU13 hR13 hI13 hBv13 hu14 D2 hb13 hG13 hVa13
      simp only [headV]
      go_wp2_with (first
        | ((with_reducible show wpList _ _ _ _ _ _); refine wpList_store_blk rfl 28 _ _ rfl (b := w14.heap.size) rfl k14 (cs := [.bool (knB v ov), .int .i64 (knI v b), .int .i64 k, .int .i64 (rowsOf xs)]) rfl rfl (by kernel_rfl) (by simp [Value.oneCell']) ?_; intro w15 hb15 hu15; simp only [Act.put])
        | (go_at_call 11; apply stopHere))
      show Calls _ _ _ _ _
      have hu1415 : Upd [] w14 w15 := u14.trans hu15 (fun y hy => by simp at hy; exact .inr (by omega))
      have hU15 := hU14.trans hu1415 (fun _ h => .inl h)
      have hR15 := hR14.upd hu1415 (by simp)
      have hI15 := hu1415.at hI14 (by simp)
      have hlo15 := hu1415.size
      have hVa15 := hVa14.upd hu1415
      have hVb15 := hVb14.upd hu1415
      have hG15 := hu1415.at hG14 (by simp)
      have hH15 := hb15
      clear hU14 hR14 hI14 hG14 hu15 k14 u14 hVa14 hVb14 hb15
      obtain ⟨m, hm, hP⟩ := pkCut g1 NA cg1 z hz (by omega) (by omega) hcap w15
      refine hP.mono ?_
      rintro e w16 ⟨rfl, hw16⟩
      dsimp only
      rw [hw16]
      clear hP hw16
      go_wp2_with (go_at_call 10; apply stopHere)
      show Calls _ _ _ _ _
      have hd3 := D3 _ (h1.upd hU15) g1 m cg1 hm (hR15.view 0 (YA.take m) (fun j v hj => by
        rw [Nat.zero_add]
        rw [List.getElem?_take] at hj
        split at hj
        · exact hj
        · simp at hj)) (by omega) (hR15.lt g1 (by simp))
      with_reducible refine hd3.mono ?_
      rintro e w17 ⟨rfl, hu17⟩
      have hU17 := hU15.trans hu17 (fun _ h => .inl h)
      have hR17 := hR15.upd hu17 (by simp)
      have hI17 := hu17.at hI15 (by simp)
      have hlo17 := hu17.size
      have hVa17 := hVa15.upd hu17
      have hVb17 := hVb15.upd hu17
      have hG17 := hu17.at hG15 (by simp)
      have hH17 := hu17.at hH15 (by simp)
      obtain ⟨k17, u17, s17⟩ := alloc_facts w17 (Obj.cells #[.bool false, .int .i64 0, .int .i64 0, .int .i64 0] 28)
      clear hd3 hU15 hR15 hI15 hG15 hH15 hu17 hVa15 hVb15 D3
      simp only [headV]
      go_wp2_with (first
        | (((with_reducible show wpList _ _ _ _ _ _); refine wpList_store_blk rfl 28 _ _ rfl (b := w17.heap.size) rfl k17 (cs := [.bool false, .int .i64 0, .int .i64 0, .int .i64 0]) rfl rfl (by kernel_rfl) (by simp [Value.oneCell']) ?_; intro w18 hb18 hu18; simp only [Act.put]); have hu1718 : Upd [] w17 w18 := u17.trans hu18 (fun y hy => by simp at hy; exact .inr (by omega)); have hI18 := hu1718.at hI17 (by simp); have r18 := rangeAt_blk (cs := [.bool ov, .int .i64 b, .int .i64 k, .int .i64 (rowsOf xs)]) hI18)
        | ((with_reducible show wpList _ _ _ _ _ _); refine wpList_load_mid rfl 28 _ rfl w6.heap.size 0 rfl [.bool ov, .int .i64 b, .int .i64 k, .int .i64 (rowsOf xs)] _ r18 Tryz.underlying28 rfl (by kernel_rfl) ?_)
        | (go_at_call 12; apply stopHere))
      show Calls _ _ _ _ _
      refine (bkKnown_K ov b v k (rowsOf xs) _).mono ?_
      rintro e w19 ⟨rfl, hu19⟩
      have hU18 := hU17.trans hu1718 (fun _ h => .inl h)
      have hVa18 := hVa17.upd hu1718
      have hVb18 := hVb17.upd hu1718
      have hR18 := hR17.upd hu1718 (by simp)
      have hG18 := hu1718.at hG17 (by simp)
      have hH18 := hu1718.at hH17 (by simp)
      clear hU17 hR17 hI17 hG17 hH17 hu18 k17 u17 hVa17 hVb17 hb18
      have hU19 := hU18.trans hu19 (fun _ h => .inl h)
      have hR19 := hR18.upd hu19 (by simp)
      have hI19 := hu19.at hI18 (by simp)
      have hlo19 := hu19.size
      have hVa19 := hVa18.upd hu19
      have hVb19 := hVb18.upd hu19
      have hG19 := hu19.at hG18 (by simp)
      have hH19 := hu19.at hH18 (by simp)
      obtain ⟨k19, u19, s19⟩ := alloc_facts w19 (Obj.cells #[.bool false, .int .i64 0, .int .i64 0, .int .i64 0] 28)
      clear hU18 hR18 hI18 hG18 hH18 hu19 r18 hVa18 hVb18
      simp only [headV]
      have hneB : ((nb : Int) == nb) = true := by simp
      go_wp2_with (first
        | (((with_reducible show wpList _ _ _ _ _ _); refine wpList_store_blk rfl 28 _ _ rfl (b := w19.heap.size) rfl k19 (cs := [.bool (knB v ov), .int .i64 (knI v b), .int .i64 k, .int .i64 (rowsOf xs)]) rfl rfl (by kernel_rfl) (by simp [Value.oneCell']) ?_; intro w20 hb20 hu20; simp only [Act.put]); have hu1920 : Upd [] w19 w20 := u19.trans hu20 (fun y hy => by simp at hy; exact .inr (by omega)); have rG := rangeAt_blk (cs := [.bool (knB v ov), .int .i64 (knI v b), .int .i64 k, .int .i64 (rowsOf xs)]) (hu1920.at hG19 (by simp)); have rH := rangeAt_blk (cs := [.bool (knB v ov), .int .i64 (knI v b), .int .i64 k, .int .i64 (rowsOf xs)]) (hu1920.at hH19 (by simp)); have rK := rangeAt_blk (cs := [.bool (knB v ov), .int .i64 (knI v b), .int .i64 k, .int .i64 (rowsOf xs)]) hb20)
        | ((with_reducible show wpList _ _ _ _ _ _); refine wpList_load_midG (by rfl) 28 _ rfl w12.heap.size 0 rfl [.bool (knB v ov), .int .i64 (knI v b), .int .i64 k, .int .i64 (rowsOf xs)] _ rG Tryz.underlying28 rfl (by kernel_rfl) ?_)
        | ((with_reducible show wpList _ _ _ _ _ _); refine wpList_load_midG (by rfl) 28 _ rfl w14.heap.size 0 rfl [.bool (knB v ov), .int .i64 (knI v b), .int .i64 k, .int .i64 (rowsOf xs)] _ rH Tryz.underlying28 rfl (by kernel_rfl) ?_)
        | ((with_reducible show wpList _ _ _ _ _ _); refine wpList_load_midG (by rfl) 28 _ rfl w19.heap.size 0 rfl [.bool (knB v ov), .int .i64 (knI v b), .int .i64 k, .int .i64 (rowsOf xs)] _ rK Tryz.underlying28 rfl (by kernel_rfl) ?_)
        | (go_at_call 14; apply stopHere))
      show Calls _ _ _ _ _
      have hU20 := hU19.trans hu1920 (fun _ h => .inl h)
      have hVa20 := hVa19.upd hu1920
      have hVb20 := hVb19.upd hu1920
      clear hU19 hR19 hI19 hG19 hH19 hu20 k19 u19 hVa19 hVb19 hb20 rG rH rK
      have hbr := bkRows a0 c0 xs hf1 _ (h1.upd hU20) (hw.upd hU20)
      rw [← HN.out] at hbr
      refine hbr.mono ?_
      rintro e w21 ⟨⟨ao21, c21, vs21, rfl, hVc21⟩, hu21⟩
      have hU21 := hU20.trans hu21 (fun _ h => .inl h)
      have hVa21 := hVa20.upd hu21
      have hVb21 := hVb20.upd hu21
      clear hbr
      dsimp only
      go_wp2_with (go_at_call 13; apply stopHere)
      show Calls _ _ _ _ _
      refine (bkSame _ _ _ _ _ _ _ _ (by omega) (kept_len hf1) _ hVa21 hVc21).mono ?_
      rintro e w22 ⟨rfl, hu22⟩
      have hU22 := hU21.trans hu22 (fun _ h => .inl h)
      have hVa22 := hVa21.upd hu22
      have hVb22 := hVb21.upd hu22
      dsimp only
      go_wp2_with (go_at_call 13; apply stopHere)
      show Calls _ _ _ _ _
      refine (bkSame _ _ _ _ _ _ _ _ (by omega) (kept_len hf1) _ hVb22 hVa22).mono ?_
      rintro e w23 ⟨rfl, hu23⟩
      dsimp only
      go_wp2
      go_ret
      exact ⟨rfl, hU22.trans hu23 (fun _ h => .inl h)⟩
end Go.Proofs.YteimeeepcfcfcaaGreatDoor
