/- The law's walk: laws.FnBKTwo answers true. -/
import Derived.Test.YtjhfjifeeomciaaGreatDoorLR
import Derived.Laws.IdiomStrings
import Derived.Laws.Cover3
namespace Go.Proofs.YtjhfjifeeomciaaGreatDoor
set_option linter.unusedVariables false
set_option linter.unusedSimpArgs false
open Go Go.RowKit
theorem wpList_sliceLo {P : Program} {w : World} {ops : Array Oper} {rest : List Oper} {o : Oper} {a : Act} {Q : Exit → Act → World → Prop} (hgd : o.guard = none) (T e : TypeId) (sz : Nat) (x l : Operand) (ho : o.op = .slice T x (some l) none none) (hu : P.underlying T = some (.slice e)) (hsz : (P.info? e).map (·.size) = some sz)
    (b off n c : Nat) (hx : a.eval x = .slice (some ⟨b, off, none⟩) n c) (L : Int) {kl : IntKind} (lo : Nat) (hl : a.eval l = .int kl L) (hL : L = lo) (h1 : lo ≤ n) (h3 : lo < c) (off' n' c' : Nat) (e1 : off' = off + lo * sz) (e2 : n' = n - lo) (e3 : c' = c - lo)
    (k : wpList P ops Q rest (a.put o.dst (.slice (some ⟨b, off', none⟩) n' c')) w) : wpList P ops Q (o :: rest) a w :=
  wpList_plain hgd fun K hK => by
    subst hL e1 e2 e3
    have he : P.elem T = e := by simp [Program.elem, hu]
    obtain ⟨i, hi1, hi2⟩ := Option.map_eq_some_iff.1 hsz
    have hr := run_slice_l (P := P) (w := w) T (some ⟨b, off, none⟩) n c (by rw [he]; exact hu) kl (lo : Int) (by omega) (by omega)
    have hne : ¬ c = lo := by omega
    rw [he] at hr
    simp [sizeOf, typeInfo, hi1, hi2, Result.andThen, sliced, hne, Addr.add_lit] at hr
    unfold Oper.wp execOp
    simp only [ho, hx, Option.map_some, hl, Option.map_none]
    simp only [Sem.run_bind, run_sliceAt_slice (P := P) w T _ _ _ _ (by simp only [Program.elem, hu]), hr, Result.andThen_ok, Sem.run_pure]
    exact hK _ _ k
theorem eqNil (a : Option Addr) (l c : Nat) (w : World) : (binOp .eql 26 (.slice a l c) (.slice none 0 0)).run Tryz.prog w = .ok (.bool a.isNone) w := by
  have h := run_equal_slice_nil (P := Tryz.prog) w 26 5 a l c Tryz.underlying26
  simp [binOp, h]
set_option maxRecDepth 100000 in
set_option maxHeartbeats 400000 in
theorem cloneB (a : Addr) (n c : Nat) (bs : List Value) (w : World) (hv : View w 1 (some a) n bs) (h1 : ∀ u ∈ bs, u.oneCell' = true) (h0 : 0 < n) (hn : n ≤ 100000) :
    Calls Tryz.prog 9 #[.slice (some a) n c] w fun e w' => ∃ g c', e = .returned (.slice (some ⟨g, 0, none⟩) n c') ∧ Row w' 5 1 (some ⟨g, 0, none⟩) n c' bs ∧ Upd [] w w' ∧ w.heap.size ≤ g := by
  have hl := hv.len
  have hq := eqNil (some a) n c
  go_enter Tryz.func9, Tryz.ntmps9
  have hrow : Row (w.alloc (.cells #[] 5)) 5 1 (some ⟨w.heap.size, 0, none⟩) 0 0 [] := Row.of _ (heap_alloc_new _ _) (Nat.le_refl _) (by decide) rfl rfl
  have u1 := (Upd.refl [] w).alloc (Obj.cells #[] 5)
  have hv1 := hv.upd u1 (by simp)
  have hsrc : Src Tryz.prog 1 26 (.slice (some a) n c) n bs (w.alloc (.cells #[] 5)) := by
    obtain ⟨b, o, h, hr, hb⟩ := hv1.at_ (by omega)
    cases h
    exact Src.ofRange Tryz.underlying26 hl hr h1
  go_wp2_with (at_builtin; refine wpList_app _ rfl (.tmp 5) (.tmp 6) 26 26 rfl 5 (.int .u8 0) 1 1 Tryz.underlying26 Tryz.info5 rfl (by decide) hrow rfl hsrc rfl (by decide) (by omega) ?_; intro ao1 c1 w2 hown1 hupd1 hin1)
  have hown2 : Row w2 5 1 ao1 n c1 bs := by simpa using hown1
  obtain ⟨g, rfl⟩ := hown2.head h0
  go_ret
  refine ⟨g, c1, by simp, hown2, u1.trans hupd1 (fun y hy => by simp at hy; exact .inr (by omega)), ?_⟩
  rcases hin1 g (by simp) with h | h
  · simp at h; omega
  · simp at h; omega
theorem blkB_pos {v : Int} {ov : Bool} {b : Int} {R : Nat} {bs : List Bc} : 0 < (blkB v ov b R bs).length := by
  unfold blkB rawV
  simp only [List.length_append, List.length_cons, List.length_nil]
  omega
set_option maxRecDepth 100000 in
set_option maxHeartbeats 4000000 in
theorem bkTwo (x : Int) (hx : 0 ≤ x ∧ x < 65536) (a0 a1 : Option Addr) (c0 c1 : Nat) (xs ys : List Rc) (w : World) (h1 : Rcs w a0 xs) (h2 : Rcs w a1 ys) (hw : Wds w) :
    Calls Tryz.prog 3 #[.int .u16 x, .slice a0 xs.length c0, .slice a1 ys.length c1] w fun e w' => e = .returned (.bool true) ∧ Upd [] w w' := by
  obtain ⟨v, hv⟩ : ∃ v, v = 50000 + x % 4501 := ⟨_, rfl⟩
  have hpv := pkVersion x hx.1 hx.2
  rw [← hv] at hpv
  clear hv hx
  go_enter Tryz.func3, Tryz.ntmps3
  go_wp2_with (go_at_call 4; apply stopHere)
  show Calls _ _ _ _ _
  refine (zzFits11 a0 c0 xs _ h1).mono ?_
  rintro e w1 ⟨⟨b1, rfl⟩, hU1⟩
  dsimp only
  cases b1
  · go_wp2
    go_ret
    exact ⟨rfl, hU1⟩
  go_wp2_with (go_at_call 4; apply stopHere)
  show Calls _ _ _ _ _
  refine (zzFits11 a1 c1 ys _ (h2.upd hU1)).mono ?_
  rintro e w2 ⟨⟨b2, rfl⟩, hu2⟩
  have hU2 : Upd [] w w2 := hU1.trans hu2 (fun _ h => .inl h)
  clear hU1 hu2
  dsimp only
  cases b2
  · go_wp2
    go_ret
    exact ⟨rfl, hU2⟩
  go_wp2_with (go_at_call 5; apply stopHere)
  show Calls _ _ _ _ _
  refine (bkFit a0 c0 xs _ (h1.upd hU2) (hw.upd hU2)).mono ?_
  rintro e w3 ⟨⟨b3, rfl, hf1⟩, hu3⟩
  have hU3 : Upd [] w w3 := hU2.trans hu3 (fun _ h => .inl h)
  clear hU2 hu3
  dsimp only
  cases b3
  · clear hf1
    go_wp2
    go_ret
    exact ⟨rfl, hU3⟩
  replace hf1 := hf1 rfl
  go_wp2_with (go_at_call 5; apply stopHere)
  show Calls _ _ _ _ _
  refine (bkFit a1 c1 ys _ (h2.upd hU3) (hw.upd hU3)).mono ?_
  rintro e w4 ⟨⟨b4, rfl, hf2⟩, hu4⟩
  have hU4 : Upd [] w w4 := hU3.trans hu4 (fun _ h => .inl h)
  clear hU3 hu4
  dsimp only
  cases b4
  · clear hf2 hf1
    go_wp2
    go_ret
    exact ⟨rfl, hU4⟩
  replace hf2 := hf2 rfl
  have hok1 := hf1.okB h1.rok
  have hok2 := hf2.okB h2.rok
  have hl1 : (xs.map Rc.bc).length = xs.length := List.length_map _
  have hl2 : (ys.map Rc.bc).length = ys.length := List.length_map _
  have hx5 := hf1.n1
  have hy5 := hf2.n1
  have hx0 := hf1.n0
  have hy0 := hf2.n0
  have E1 := fun (W : World) (hW : Rcs W a0 xs) => BKEncode_K false (-1) v (by decide) (rowsOf xs) hf1.r1 a0 c0 (xs.map Rc.bc) (by omega) hok1 hf1.rnB W (hW.bcs hf1)
  have E2 := fun (W : World) (hW : Rcs W a1 ys) => BKEncode_K true 7 v (by decide) (rowsOf ys) hf2.r1 a1 c1 (ys.map Rc.bc) (by omega) hok2 hf2.rnB W (hW.bcs hf2)
  have D1 := fun (W : World) (hW : Rcs W a0 xs) (d o N c : Nat) (rest : List Value) => BKDecode_K false (-1) v (by decide) (rowsOf xs) hf1.r0 hf1.r1 d o N c rest a0 c0 (xs.map Rc.bc) (by omega) (by omega) hok1 hf1.rnB hf1.nmB W (hW.bcs hf1).view
  have D2 := fun (W : World) (hW : Rcs W a1 ys) (d o N c : Nat) (rest : List Value) => BKDecode_K true 7 v (by decide) (rowsOf ys) hf2.r0 hf2.r1 d o N c rest a1 c1 (ys.map Rc.bc) (by omega) (by omega) hok2 hf2.rnB hf2.nmB W (hW.bcs hf2).view
  have hA0 : 0 < (blkB v false (-1) (rowsOf xs) (xs.map Rc.bc)).length := blkB_pos
  have hB0 : 0 < (blkB v true 7 (rowsOf ys) (ys.map Rc.bc)).length := blkB_pos
  have hA1 := (blkB_len (v := v) (ov := false) (b := -1) (R := rowsOf xs) hok1).1
  have hB1 := (blkB_len (v := v) (ov := true) (b := 7) (R := rowsOf ys) hok2).1
  have hAb := blkB_bytes (v := v) (ov := false) (b := -1) (R := rowsOf xs) hok1 (by omega) hf1.r1
  have hBb := blkB_bytes (v := v) (ov := true) (b := 7) (R := rowsOf ys) hok2 (by omega) hf2.r1
  rw [hl1] at E1 D1 hA1
  rw [hl2] at E2 D2 hB1
  generalize blkB v false (-1) (rowsOf xs) (xs.map Rc.bc) = YA at *
  generalize blkB v true 7 (rowsOf ys) (ys.map Rc.bc) = YB at *
  obtain ⟨NA, hNA⟩ : ∃ N, N = YA.length := ⟨_, rfl⟩
  obtain ⟨NB, hNB⟩ : ∃ N, N = YB.length := ⟨_, rfl⟩
  rw [← hNA] at hA0 hA1
  rw [← hNB] at hB0 hB1
  have HA := Lib.hid hNA
  have HB := Lib.hid hNB
  clear hNA hNB
  have hr1 := h1.upd hU4
  have hr2 := h2.upd hU4
  have I1 := fun (W : World) (hW : Rcs W a0 xs) => bkInfo false (-1) (by decide) a0 c0 xs hx0 W hW
  have I2 := fun (W : World) (hW : Rcs W a1 ys) => bkInfo true 7 (by decide) a1 c1 ys hy0 W hW
  go_wp2_with (first
    | (go_at_call 6; (refine (hpv _).mono ?_); rintro e w5 ⟨rfl, hw5⟩; subst hw5)
    | (go_at_call 8; (refine (I1 _ hr1).mono ?_); rintro e w6 ⟨rfl, hu6⟩)
    | (go_at_call 7; apply stopHere))
  show Calls _ _ _ _ _
  refine (E1 _ (hr1.upd hu6)).mono ?_
  rintro e w7 ⟨g1, cg1, rfl, hR7, hu7, hg7⟩
  rw [← HA.out] at hR7 ⊢
  have hU7 := (hU4.trans hu6 (fun _ h => .inl h)).trans hu7 (fun _ h => .inl h)
  clear hU4 hu6 hu7
  dsimp only
  have hr7 := h2.upd hU7
  go_wp2_with (first
    | (go_at_call 8; (refine (I2 _ hr7).mono ?_); rintro e w8 ⟨rfl, hu8⟩)
    | (go_at_call 7; apply stopHere))
  show Calls _ _ _ _ _
  refine (E2 _ (hr7.upd hu8)).mono ?_
  rintro e w9 ⟨g2, cg2, rfl, hR9, hu9, hg9⟩
  rw [← HB.out] at hR9 ⊢
  have hu79 := hu8.trans hu9 (fun _ h => .inl h)
  have hA9 := hR7.upd hu79 (by simp)
  have hU9 := hU7.trans hu79 (fun _ h => .inl h)
  clear hU7 hu8 hu9 hu79 hR7
  dsimp only
  go_wp2_with (go_at_call 9; apply stopHere)
  show Calls _ _ _ _ _
  refine (cloneB ⟨g1, 0, none⟩ NA cg1 YA _ hA9.toView hAb.one hA0 (by omega)).mono ?_
  rintro e w10 ⟨g3, cg3, rfl, hR10, hu10, hg10⟩
  have hB10 := hR9.upd hu10 (by simp)
  have hU10 := hU9.trans hu10 (fun _ h => .inl h)
  have hs9 := hU9.size
  have hrB := hB10.view 0 YB (fun j v hj => by rw [Nat.zero_add]; exact hj)
  clear hU9 hu10 hA9 hR9
  dsimp only
  go_wp2_with (first
    | (at_builtin; (refine wpList_app _ rfl (.tmp 52) (.tmp 53) 26 26 rfl 5 (.int .u8 0) 1 1 Tryz.underlying26 Tryz.info5 rfl (by decide) hR10 rfl (Src.ofRange Tryz.underlying26 (n := NB) (by have := HB.out; omega) hrB hBb.one) rfl (by decide) (by omega) ?_); intro ao11 c11 w11 hown11 hupd11 hin11)
    | (go_at_call 10; apply stopHere))
  show Calls _ _ _ _ _
  have hsg : w.heap.size ≤ g3 := Nat.le_trans hs9 hg10
  obtain ⟨g4, rfl⟩ := hown11.head (by omega)
  have hU11 : Upd [] w w11 := hU10.trans hupd11 (fun y hy => by simp at hy; exact .inr (by omega))
  have hlAB : NA + NB = (YA ++ YB).length := by rw [List.length_append, ← HA.out, ← HB.out]
  have hrg := hown11.view 0 (YA ++ YB) (fun j v hj => by rw [Nat.zero_add]; exact hj)
  have hrB11 := hown11.view NA YB (fun j v hj => by
    rw [List.getElem?_append_right (by have := HA.out; omega), ← hj]
    congr 1
    have := HA.out
    omega)
  have hg4l := hown11.lt g4 (by simp)
  have hcap := hown11.cap.1
  refine (D1 _ (h1.upd hU11) g4 0 (NA + NB) c11 YB hrg hlAB hcap hBb hg4l).mono ?_
  rintro e w12 hdec
  obtain ⟨ao12, c12, vs12, rfl, hV12, hu12⟩ := hdec.rows
  rw [← HB.out]
  simp only [headV]
  have hU12 := hU11.trans hu12 (fun _ h => .inl h)
  have hrB12 := hu12.range hrB11 hg4l (by simp)
  have hgl12 : g4 < w12.heap.size := Nat.lt_of_lt_of_le hg4l hu12.size
  obtain ⟨k12, u12, s12⟩ := alloc_facts w12 (Obj.cells #[.bool false, .int .i64 0, .int .i64 0, .int .i64 0] 30)
  have hneB : ((NB : Int) == NB) = true := by simp
  clear D1 E1 E2 I1 I2 hrg hlAB hdec hown11 hupd11 hin11 hrB11 hB10 hR10
  go_wp2_with (first
    | ((with_reducible show wpList _ _ _ _ _ _); refine wpList_store_blk rfl 30 (.tmp 13) (.tmp 60) rfl (b := w12.heap.size) rfl k12 (cs := [.bool (knB v false), .int .i64 (knI v (-1)), .int .i64 xs.length, .int .i64 (rowsOf xs)]) rfl rfl (by kernel_rfl) (by simp [Value.oneCell']) ?_; intro w13 hb13 hu13; simp only [Act.put])
    | (go_at_call 12; apply stopHere))
  show Calls _ _ _ _ _
  have hu13' : Upd [] w12 w13 := u12.trans hu13 (fun y hy => by simp at hy; exact .inr (by omega))
  have hU13 := hU12.trans hu13' (fun _ h => .inl h)
  refine (bkRows a0 c0 xs hf1 _ (h1.upd hU13) (hw.upd hU13)).mono ?_
  rintro e w14 ⟨⟨ao14, c14, vs14, rfl, hV14⟩, hu14⟩
  have hU14 := hU13.trans hu14 (fun _ h => .inl h)
  have hV12' := (hV12.upd hu13').upd hu14
  have hrB14 := (hu13'.trans hu14 (fun _ h => .inl h)).range hrB12 hgl12 (by simp)
  have hgl14 : g4 < w14.heap.size := Nat.lt_of_lt_of_le hgl12 (hu13'.trans hu14 (fun _ h => .inl h)).size
  clear k12 u12 hb13 hu13 hu13' hu14 hrB12 hgl12 hV12
  dsimp only
  go_wp2_with (go_at_call 11; apply stopHere)
  show Calls _ _ _ _ _
  refine (bkSame _ _ _ _ _ _ _ _ (by omega) (kept_len hf1) _ hV12' hV14).mono ?_
  rintro e w15 ⟨rfl, hu15⟩
  have hU15 := hU14.trans hu15 (fun _ h => .inl h)
  have hrB15 := hu15.range hrB14 hgl14 (by simp)
  have hgl15 : g4 < w15.heap.size := Nat.lt_of_lt_of_le hgl14 hu15.size
  clear hu15 hrB14 hgl14 hV12' hV14
  dsimp only
  go_wp2_with (first
    | ((with_reducible show wpList _ _ _ _ _ _); refine wpList_sliceLo rfl 26 5 1 (.tmp 88) (.tmp 92) rfl Tryz.underlying26 (by kernel_rfl) g4 0 (NA + NB) c11 rfl _ NA rfl (by first | omega | (simp only [IntKind.wrap_i64]; omega)) (by omega) (by omega) NA NB (c11 - NA) (by omega) (by omega) rfl ?_; simp only [Act.put])
    | (go_at_call 10; apply stopHere))
  show Calls _ _ _ _ _
  refine (D2 _ (h2.upd hU15) g4 NA NB (c11 - NA) [] (by rw [List.append_nil]; exact hrB15) (by rw [List.append_nil]; exact HB.out) (by omega) AllBytes.nil hgl15).mono ?_
  rintro e w16 hdec
  obtain ⟨ao16, c16, vs16, rfl, hV16, hu16⟩ := hdec.rows
  simp only [headV, List.length_nil]
  have hU16 := hU15.trans hu16 (fun _ h => .inl h)
  clear D2 hdec hrB15
  go_wp2_with (go_at_call 12; apply stopHere)
  show Calls _ _ _ _ _
  refine (bkRows a1 c1 ys hf2 _ (h2.upd hU16) (hw.upd hU16)).mono ?_
  rintro e w17 ⟨⟨ao17, c17, vs17, rfl, hV17⟩, hu17⟩
  have hU17 := hU16.trans hu17 (fun _ h => .inl h)
  have hV16' := hV16.upd hu17
  clear hu16 hu17 hV16
  dsimp only
  go_wp2_with (go_at_call 11; apply stopHere)
  show Calls _ _ _ _ _
  refine (bkSame _ _ _ _ _ _ _ _ (by omega) (kept_len hf2) _ hV16' hV17).mono ?_
  rintro e w18 ⟨rfl, hu18⟩
  dsimp only
  go_wp2
  go_ret
  exact ⟨rfl, hU17.trans hu18 (fun _ h => .inl h)⟩
end Go.Proofs.YtjhfjifeeomciaaGreatDoor
