/- The law's walk: laws.FnBKRaw answers true. -/
import Derived.Test.YtgbpabpeddajpaaGreatDoorLR
import Derived.Test.YtgbpabpeddajpaaGreatDoorRW
import Derived.Laws.IdiomStrings
import Derived.Laws.Cover3
import Derived.Laws.StructEq
namespace Go.Proofs.YtgbpabpeddajpaaGreatDoor
set_option linter.unusedVariables false
set_option linter.unusedSimpArgs false
open Go Go.RowKit
theorem eqNil (a : Option Addr) (l c : Nat) (w : World) : (binOp .eql 29 (.slice a l c) (.slice none 0 0)).run Tryz.prog w = .ok (.bool a.isNone) w := by
  have h := run_equal_slice_nil (P := Tryz.prog) w 29 5 a l c Tryz.underlying29
  simp [binOp, h]
set_option maxRecDepth 100000 in
set_option maxHeartbeats 400000 in
theorem cloneB (a : Addr) (n c : Nat) (bs : List Value) (w : World) (hv : View w 1 (some a) n bs) (h1 : ∀ u ∈ bs, u.oneCell' = true) (h0 : 0 < n) (hn : n ≤ 100000) :
    Calls Tryz.prog 13 #[.slice (some a) n c] w fun e w' => ∃ g c', e = .returned (.slice (some ⟨g, 0, none⟩) n c') ∧ Row w' 5 1 (some ⟨g, 0, none⟩) n c' bs ∧ Upd [] w w' ∧ w.heap.size ≤ g := by
  have hl := hv.len
  have hq := eqNil (some a) n c
  go_enter Tryz.func13, Tryz.ntmps13
  have hrow : Row (w.alloc (.cells #[] 5)) 5 1 (some ⟨w.heap.size, 0, none⟩) 0 0 [] := Row.of _ (heap_alloc_new _ _) (Nat.le_refl _) (by decide) rfl rfl
  have u1 := (Upd.refl [] w).alloc (Obj.cells #[] 5)
  have hv1 := hv.upd u1 (by simp)
  have hsrc : Src Tryz.prog 1 29 (.slice (some a) n c) n bs (w.alloc (.cells #[] 5)) := by
    obtain ⟨b, o, h, hr, hb⟩ := hv1.at_ (by omega)
    cases h
    exact Src.ofRange Tryz.underlying29 hl hr h1
  go_wp2_with (at_builtin; refine wpList_app _ rfl (.tmp 5) (.tmp 6) 29 29 rfl 5 (.int .u8 0) 1 1 Tryz.underlying29 Tryz.info5 rfl (by decide) hrow rfl hsrc rfl (by decide) (by omega) ?_; intro ao1 c1 w2 hown1 hupd1 hin1)
  have hown2 : Row w2 5 1 ao1 n c1 bs := by simpa using hown1
  obtain ⟨g, rfl⟩ := hown2.head h0
  go_ret
  refine ⟨g, c1, by simp, hown2, u1.trans hupd1 (fun y hy => by simp at hy; exact .inr (by omega)), ?_⟩
  rcases hin1 g (by simp) with h | h
  · simp at h; omega
  · simp at h; omega
set_option maxRecDepth 100000 in
set_option maxHeartbeats 400000 in
theorem cloneN (w : World) : Calls Tryz.prog 13 #[.slice none 0 0] w fun e w' => e = .returned (.slice none 0 0) ∧ w' = w := by
  have hq := eqNil none 0 0
  go_enter Tryz.func13, Tryz.ntmps13
  go_wp2
  go_ret
  exact ⟨rfl, rfl⟩
theorem wpList_appG {P : Program} (w : World) {ops : Array Oper} {rest : List Oper} {o : Oper} {a : Act} {Q : Exit → Act → World → Prop} (hw : Region.wanted o (yielded ops a.tmps) = true) (s x : Operand) (t tx : TypeId)
    (ho : o.op = .call { callee := .builtin .append, args := #[s, x], argTypes := #[t, tx] })
    (e : TypeId) (z : Value) (size bytes : Nat) (ht : P.underlying t = some (.slice e))
    (hinfo : (P.info? e).map (fun i => (i.zero, i.size, i.bytes)) = some (some z, size, bytes)) (hzs : z.cells.size = size) (hsz : 0 < size)
    {ao : Option Addr} {n cp : Nat} {xs : List Value} (hown : Row w e size ao n cp xs) (hs : a.eval s = .slice ao n cp)
    {vx : Value} {m : Nat} {news : List Value} (hsrc : Src P size tx vx m news w) (hx : a.eval x = vx) (hb0 : 0 < bytes) (hbytes : (n + m) * bytes ≤ 140737488355328)
    (h : ∀ ao' c' w', Row w' e size ao' (n + m) c' (xs ++ news) → Upd (bk ao) w w' → In (bk ao) w.heap.size ao' → wpList P ops Q rest (a.put o.dst (.slice ao' (n + m) c')) w') : wpList P ops Q (o :: rest) a w :=
  wpList_step fun K hK => by
    rw [if_pos hw]
    obtain ⟨ao', c', w', hr, h2, h3, h5⟩ := run_app (P := P) w t tx o.type e z size bytes ht hinfo hzs hsz ao n cp xs hown vx m news hsrc hb0 hbytes
    unfold Oper.wp execOp
    simp only [ho, resolve, invoke, builtin, Sem.run_bind, Sem.run_pure, Result.andThen_ok, List.map_toArray, List.map_cons, List.map_nil, hs, hx, hr]
    exact hK _ _ (h ao' c' w' h2 h3 h5)

set_option maxRecDepth 100000 in
set_option maxHeartbeats 400000 in
theorem encInfo (ov : Bool) (b : Int) (hb : -2147483648 ≤ b ∧ b < 2147483648) (w : World) :
    Calls Tryz.prog 10 #[.bool ov, .int .i64 b] w fun e w' => ∃ g c, e = .returned (.slice (some ⟨g, 0, none⟩) 8 c) ∧ Row w' 5 1 (some ⟨g, 0, none⟩) 8 c (infoV ov b) ∧ Upd [] w w' ∧ w.heap.size ≤ g := by
  have he : Calls Tryz.prog 22 #[.func (Fn.func 23) #[.agg #[.bool ov, .int .i64 b]] #[]] w fun e w' => ∃ g c, e = .returned (.slice (some ⟨g, 0, none⟩) 8 c) ∧ Row w' 5 1 (some ⟨g, 0, none⟩) 8 c (infoV ov b) ∧ Upd [] w w' ∧ w.heap.size ≤ g := by
    have hB := newBufB w
    go_enter Tryz.func22, Tryz.ntmps22
    go_wp2_with (go_at_call 23; (refine (InfoEncode w.heap.size none 0 0 [] ov b _ hB (by omega) hb).mono ?_); rintro e w2 ⟨rfl, ao2, c2, hH2, hU2, hI2⟩; have hc2 := hH2.cell)
    rw [Nat.zero_add, List.nil_append] at hH2
    have hH3 := hH2.own
    obtain ⟨g, rfl⟩ := hH3.head (by omega)
    go_ret
    refine ⟨g, c2, by first | rfl | simp, hH3, ((Upd.refl [] w).alloc _).trans hU2 (fun y hy => .inr (by simp at hy; omega)), ?_⟩
    rcases hI2 g (by simp) with h | h
    · simp at h
    · simp at h; omega
  have hmf : ∀ (fn : Fn) (first cap : Array Value) (w : World), (Instr.makeFunc fn first cap).run Tryz.prog w = .ok (.func fn first cap) w := fun _ _ _ _ => rfl
  go_enter Tryz.func10, Tryz.ntmps10
  go_wp2_with (go_at_call 22; (refine he.mono ?_); rintro e w2 ⟨g, c2, rfl, hR2, hu2, hg2⟩)
  go_ret
  exact ⟨g, c2, rfl, hR2, hu2, hg2⟩
set_option maxRecDepth 100000 in
set_option maxHeartbeats 4000000 in
theorem bkRaw (ov : Bool) (b : Int) (hb : -2147483648 ≤ b ∧ b < 2147483648) (x : Int) (hx : 0 ≤ x ∧ x < 65536) (a0 : Option Addr) (c0 : Nat) (xs : List Rc) (w : World) (h1 : Rcs w a0 xs) (hw : Wds w) :
    Calls Tryz.prog 3 #[.bool ov, .int .i32 b, .int .u16 x, .slice a0 xs.length c0] w fun e w' => e = .returned (.bool true) ∧ Upd [] w w' := by
  obtain ⟨v, hv⟩ : ∃ v, v = 50000 + x % 4501 := ⟨_, rfl⟩
  have hpv := pkVersion x hx.1 hx.2
  rw [← hv] at hpv
  clear hv hx
  go_enter Tryz.func3, Tryz.ntmps3
  go_wp2_with (go_at_call 4; apply stopHere)
  show Calls _ _ _ _ _
  refine (zzFits11 a0 c0 xs _ h1).mono ?_
  rintro e w1 ⟨⟨b1, rfl⟩, hU1⟩
  dsimp only
  cases b1
  · go_wp2
    go_ret
    exact ⟨rfl, hU1⟩
  go_wp2_with (go_at_call 5; apply stopHere)
  show Calls _ _ _ _ _
  refine (bkFit a0 c0 xs _ (h1.upd hU1) (hw.upd hU1)).mono ?_
  rintro e w2 ⟨⟨b2, rfl, hf1⟩, hu2⟩
  have hU2 : Upd [] w w2 := hU1.trans hu2 (fun _ h => .inl h)
  clear hU1 hu2
  dsimp only
  cases b2
  · clear hf1
    go_wp2
    go_ret
    exact ⟨rfl, hU2⟩
  replace hf1 := hf1 rfl
  have hok1 := hf1.okB h1.rok
  have hl1 : (xs.map Rc.bc).length = xs.length := List.length_map _
  have hx5 := hf1.n1
  have hx0 := hf1.n0
  have E1 := fun (W : World) (hW : Rcs W a0 xs) => BKEncode_K ov b v hb (rowsOf xs) hf1.r1 a0 c0 (xs.map Rc.bc) (by omega) hok1 hf1.rnB W (hW.bcs hf1)
  have R1 := fun (W : World) (hW : Rcs W a0 xs) => BKRaw_K ov b v (rowsOf xs) hf1.r1 a0 c0 (xs.map Rc.bc) (by omega) hok1 hf1.rnB W (hW.bcs hf1)
  have D1 := fun (W : World) (hW : Rcs W a0 xs) (d N c : Nat) => BKDecodeRaw_K v (rowsOf xs) hf1.r0 hf1.r1 d 0 N c [] a0 c0 (xs.map Rc.bc) (by omega) (by omega) hok1 hf1.rnB hf1.nmB W (hW.bcs hf1).view
  have hR0 := (rawV_len (v := v) (R := rowsOf xs) hok1).2
  have hR1 := (rawV_len (v := v) (R := rowsOf xs) hok1).1
  have hRb := rawV_bytes (v := v) (R := rowsOf xs) hok1 (by omega) hf1.r1
  have hblk : blkB v ov b (rowsOf xs) (xs.map Rc.bc) = (if 51903 ≤ v then infoV ov b else []) ++ rawV v (rowsOf xs) (xs.map Rc.bc) := rfl
  rw [hl1] at E1 R1 D1 hR1
  generalize rawV v (rowsOf xs) (xs.map Rc.bc) = YR at *
  generalize blkB v ov b (rowsOf xs) (xs.map Rc.bc) = YB at *
  have HY := Lib.hid hblk
  clear hblk
  obtain ⟨NR, hNR⟩ : ∃ N, N = YR.length := ⟨_, rfl⟩
  rw [← hNR] at hR0 hR1
  have HR := Lib.hid hNR
  clear hNR
  have hr1 := h1.upd hU2
  have I1 := fun (W : World) (hW : Rcs W a0 xs) => bkInfo ov b hb a0 c0 xs hx0 W hW
  go_wp2_with (first
    | (go_at_call 6; (refine (hpv _).mono ?_); rintro e w5 ⟨rfl, hw5⟩; subst hw5)
    | (go_at_call 7; apply stopHere))
  show Calls _ _ _ _ _
  refine (I1 _ hr1).mono ?_
  rintro e w6 ⟨rfl, hu6⟩
  have hU6 := hU2.trans hu6 (fun _ h => .inl h)
  obtain ⟨k6, u6, s6⟩ := alloc_facts w6 (Obj.cells #[.bool false, .int .i64 0, .int .i64 0, .int .i64 0] 27)
  clear hU2 hu6 hr1 I1
  simp only [headV]
  go_wp2_with (first
    | ((with_reducible show wpList _ _ _ _ _ _); refine wpList_store_blk rfl 27 (.tmp 10) (.tmp 31) rfl (b := w6.heap.size) rfl k6 (cs := [.bool ov, .int .i64 b, .int .i64 xs.length, .int .i64 (rowsOf xs)]) rfl rfl (by kernel_rfl) (by simp [Value.oneCell']) ?_; intro w7 hb7 hu7; simp only [Act.put]; have r7 := rangeAt_blk (cs := [.bool ov, .int .i64 b, .int .i64 xs.length, .int .i64 (rowsOf xs)]) hb7; have hU7 : Upd [] w w7 := (hU6.trans u6 (fun _ h => .inl h)).trans hu7 (fun y hy => by simp at hy; have := hU6.size; exact .inr (by omega)))
    | ((with_reducible show wpList _ _ _ _ _ _); refine wpList_load_mid rfl 27 (.tmp 10) rfl w6.heap.size 0 rfl [.bool ov, .int .i64 b, .int .i64 xs.length, .int .i64 (rowsOf xs)] _ r7 Tryz.underlying27 rfl (by kernel_rfl) ?_)
    | (go_at_call 8; apply stopHere))
  show Calls _ _ _ _ _
  refine (E1 _ (h1.upd hU7)).mono ?_
  rintro e w8 ⟨g1, cg1, rfl, hR8, hu8, hg8⟩
  have hi7 : w6.heap.size < w7.heap.size := lt_of_block hb7
  have hb8 := hu8.at hb7 (by simp)
  have r8 := hu8.range r7 hi7 (by simp)
  have hU8 := hU7.trans hu8 (fun _ h => .inl h)
  clear hb7 r7 hu7 k6 u6 hU6 E1
  dsimp only
  go_wp2_with (first
    | ((with_reducible show wpList _ _ _ _ _ _); refine wpList_load_mid rfl 27 (.tmp 10) rfl w6.heap.size 0 rfl [.bool ov, .int .i64 b, .int .i64 xs.length, .int .i64 (rowsOf xs)] _ r8 Tryz.underlying27 rfl (by kernel_rfl) ?_)
    | (go_at_call 9; apply stopHere))
  show Calls _ _ _ _ _
  refine (R1 _ (h1.upd hU8)).mono ?_
  rintro e w9 ⟨g2, cg2, rfl, hR9, hu9, hg9⟩
  rw [← HR.out] at hR9 ⊢
  have hi8 : w6.heap.size < w8.heap.size := lt_of_block hb8
  have hb9 := hu9.at hb8 (by simp)
  have hB9 := hR8.upd hu9 (by simp)
  have hU9 := hU8.trans hu9 (fun _ h => .inl h)
  clear r8 hb8 hR8 hU8 hU7 R1
  dsimp only
  by_cases hv5 : 51903 ≤ v
  · have hwb : IntKind.i64.wrap b = b := IntWalk.i64_in _ (by omega)
    have hYB := HY.out
    clear HY
    rw [if_pos hv5] at hYB
    replace hYB := hYB.symm
    subst hYB
    go_wp2_with (go_at_call 10; apply stopHere)
    show Calls _ _ _ _ _
    refine (encInfo ov b hb _).mono ?_
    rintro e w10 ⟨g3, cg3, rfl, hP10, hu10, hg10⟩
    have hR10 := hR9.upd hu10 (by simp)
    have hB10 := hB9.upd hu10 (by simp)
    have hb10 := hu10.at hb9 (by simp)
    have hU10 := hU9.trans hu10 (fun _ h => .inl h)
    have hil := infoV_len ov b
    have hib := infoV_bytes ov b
    generalize infoV ov b = YP at *
    clear hR9 hB9 hb9 hU9 hu10
    dsimp only
    go_wp2_with (go_at_call 11; apply stopHere)
    show Calls _ _ _ _ _
    have hd := D1 _ (h1.upd hU10) g2 NR cg2 (by rw [List.append_nil]; exact hR10.view 0 YR (fun j v hj => by rw [Nat.zero_add]; exact hj)) (by rw [List.append_nil]; exact HR.out) hR10.cap.1 AllBytes.nil (hR10.lt g2 (by simp))
    with_reducible refine hd.mono ?_
    rintro e w11 hdec
    obtain ⟨ao11, c11, vs11, rfl, hV11, hu11⟩ := hdec.rows
    have hR11 := hR10.upd hu11 (by simp)
    have hB11 := hB10.upd hu11 (by simp)
    have hb11 := hu11.at hb10 (by simp)
    have hU11 := hU10.trans hu11 (fun _ h => .inl h)
    have hP11 := hP10.upd hu11 (by simp)
    obtain ⟨k11, u11, s11⟩ := alloc_facts w11 (Obj.cells #[.bool false, .int .i64 0, .int .i64 0, .int .i64 0] 27)
    have hR12 := hR11.upd u11 (by simp)
    have hB12 := hB11.upd u11 (by simp)
    have hb12 := u11.at hb11 (by simp)
    have hP12 := hP11.upd u11 (by simp)
    have hnt : ∀ y, y < w11.heap.size → y ∉ [w11.heap.size] := fun y hy => by simp; omega
    have hlR := hR11.lt g2 (by simp)
    have hlB := hB11.lt g1 (by simp)
    have hlb := lt_of_block hb11
    have hlP := hP11.lt g3 (by simp)
    clear hd hdec hR10 hB10 hb10 hU10 hu11
    simp only [headV, List.length_nil]
    go_wp2_with (first
      | ((with_reducible show wpList _ _ _ _ _ _); refine wpList_store_blk rfl 27 (.tmp 16) (.tmp 57) rfl (b := w11.heap.size) rfl k11 (cs := [.bool false, .int .i64 0, .int .i64 xs.length, .int .i64 (rowsOf xs)]) rfl rfl (by kernel_rfl) (by simp [Value.oneCell']) ?_; intro w13 hb13 hu13; simp only [Act.put])
      | (go_at_call 13; apply stopHere))
    show Calls _ _ _ _ _
    have hu113 : Upd [] w11 w13 := u11.trans hu13 (fun y hy => by simp at hy; exact .inr (by omega))
    have hR13 := hR12.upd hu13 (by simpa using hnt g2 hlR)
    have hB13 := hB12.upd hu13 (by simpa using hnt g1 hlB)
    have hI13 := hu13.at hb12 (hnt _ hlb)
    have hU13 := hU11.trans hu113 (fun _ h => .inl h)
    have hs113 := hu113.size
    have hlG := lt_of_block hb13
    have hP13 := hP12.upd hu13 (by simpa using hnt g3 hlP)
    refine (cloneB ⟨g3, 0, none⟩ 8 cg3 YP _ hP13.toView hib.one (by decide) (by decide)).mono ?_
    rintro e w14 ⟨g4, c4, rfl, hC14, hu14, hg14⟩
    dsimp only
    have hR14 := hR13.upd hu14 (by simp)
    have hB14 := hB13.upd hu14 (by simp)
    have hI14 := hu14.at hI13 (by simp)
    have hG14 := hu14.at hb13 (by simp)
    have hU14 := hU13.trans hu14 (fun _ h => .inl h)
    have hs13 := hU13.size
    have hsm := hu14.size
    have hrR := hR14.view 0 YR (fun j v hj => by rw [Nat.zero_add]; exact hj)
    clear hR11 hB11 hb11 hU11 hR12 hB12 hb12 hR13 hB13 hI13 hb13 hU13 hu13 k11 u11
    go_wp2_with (first
      | (at_builtin; (refine wpList_appG _ (by rfl) (.tmp 68) (.tmp 69) 29 29 rfl 5 (.int .u8 0) 1 1 Tryz.underlying29 Tryz.info5 rfl (by decide) hC14 rfl (Src.ofRange Tryz.underlying29 (n := NR) (by have := HR.out; omega) hrR hRb.one) rfl (by decide) (by omega) ?_); intro a15 c15 w15 hA15 hu15 hi15; simp only [Act.put])
      | (go_at_call 12; apply stopHere))
    show Calls _ _ _ _ _
    have hne4 : ∀ y, y < w13.heap.size → y ∉ bk (some (⟨g4, 0, none⟩ : Addr)) := fun y hy hx => by simp at hx; omega
    have hN1 : (YP ++ YR).length = 8 + NR := by rw [List.length_append, hil, ← HR.out]
    try rw [hN1]
    try rw [← HR.out]
    have hE := bytesEqual (some ⟨g1, 0, none⟩) a15 (8 + NR) (8 + NR) cg1 c15 (YP ++ YR) w15 (by rw [hN1] at hB14; exact hB14.toView.upd hu15 (by simpa using hne4 g1 (Nat.lt_of_lt_of_le hlB (by omega)))) hA15.toView (hib.append hRb)
    with_reducible refine hE.mono ?_
    rintro e w16 ⟨rfl, rfl⟩
    clear hE
    have hu15' : Upd [] w13 w16 := hu14.trans hu15 (fun y hy => by simp at hy; exact .inr (by omega))
    have hI16 : w16.heap[w6.heap.size]? = some (.cells #[.bool ov, .int .i64 b, .int .i64 xs.length, .int .i64 (rowsOf xs)] 27 (0, 0)) := hu15.at hI14 (hne4 _ (Nat.lt_of_lt_of_le hlb (by omega)))
    have hG16 : w16.heap[w11.heap.size]? = some (.cells #[.bool false, .int .i64 0, .int .i64 xs.length, .int .i64 (rowsOf xs)] 27 (0, 0)) := hu15.at hG14 (hne4 _ (by omega))
    have i2 := (cellAt hI16 2).trans rfl
    have i3 := (cellAt hI16 3).trans rfl
    have j2 := (cellAt hG16 2).trans rfl
    have j3 := (cellAt hG16 3).trans rfl
    have hu1116 : Upd [] w11 w16 := hu113.trans hu15' (fun _ h => .inl h)
    have hU16 : Upd [] w w16 := hU14.trans hu15 (fun y hy => by simp at hy; exact .inr (by omega))
    have hV16 := hV11.upd hu1116
    clear hI14 hG14 hI16 hG16 hA15 hu15 hi15 hB14 hR14 hrR hU14
    dsimp only
    go_wp2_with (go_at_call 15; apply stopHere)
    show Calls _ _ _ _ _
    refine (bkRows a0 c0 xs hf1 _ (h1.upd hU16) (hw.upd hU16)).mono ?_
    rintro e w17 ⟨⟨ao17, c17, vs17, rfl, hV17⟩, hu17⟩
    have hU17 := hU16.trans hu17 (fun _ h => .inl h)
    have hV16' := hV16.upd hu17
    clear hV16 hu17
    dsimp only
    go_wp2_with (go_at_call 14; apply stopHere)
    show Calls _ _ _ _ _
    refine (bkSame _ _ _ _ _ _ _ _ (by omega) (kept_len hf1) _ hV16' hV17).mono ?_
    rintro e w18 ⟨rfl, hu18⟩
    dsimp only
    go_wp2
    go_ret
    exact ⟨rfl, hU17.trans hu18 (fun _ h => .inl h)⟩
  · have hv6 : v < 51903 := by omega
    have hYB := HY.out
    clear HY
    rw [if_neg hv5, List.nil_append] at hYB
    replace hYB := hYB.symm
    subst hYB
    have hR10 := hR9
    have hB10 := hB9
    have hb10 := hb9
    have hU10 := hU9
    clear hR9 hB9 hb9 hU9
    go_wp2_with (go_at_call 11; apply stopHere)
    show Calls _ _ _ _ _
    have hd := D1 _ (h1.upd hU10) g2 NR cg2 (by rw [List.append_nil]; exact hR10.view 0 YR (fun j v hj => by rw [Nat.zero_add]; exact hj)) (by rw [List.append_nil]; exact HR.out) hR10.cap.1 AllBytes.nil (hR10.lt g2 (by simp))
    with_reducible refine hd.mono ?_
    rintro e w11 hdec
    obtain ⟨ao11, c11, vs11, rfl, hV11, hu11⟩ := hdec.rows
    have hR11 := hR10.upd hu11 (by simp)
    have hB11 := hB10.upd hu11 (by simp)
    have hb11 := hu11.at hb10 (by simp)
    have hU11 := hU10.trans hu11 (fun _ h => .inl h)
    obtain ⟨k11, u11, s11⟩ := alloc_facts w11 (Obj.cells #[.bool false, .int .i64 0, .int .i64 0, .int .i64 0] 27)
    have hR12 := hR11.upd u11 (by simp)
    have hB12 := hB11.upd u11 (by simp)
    have hb12 := u11.at hb11 (by simp)
    have hnt : ∀ y, y < w11.heap.size → y ∉ [w11.heap.size] := fun y hy => by simp; omega
    have hlR := hR11.lt g2 (by simp)
    have hlB := hB11.lt g1 (by simp)
    have hlb := lt_of_block hb11
    clear hd hdec hR10 hB10 hb10 hU10 hu11
    simp only [headV, List.length_nil]
    go_wp2_with (first
      | ((with_reducible show wpList _ _ _ _ _ _); refine wpList_store_blk rfl 27 (.tmp 16) (.tmp 57) rfl (b := w11.heap.size) rfl k11 (cs := [.bool false, .int .i64 0, .int .i64 xs.length, .int .i64 (rowsOf xs)]) rfl rfl (by kernel_rfl) (by simp [Value.oneCell']) ?_; intro w13 hb13 hu13; simp only [Act.put])
      | (go_at_call 13; apply stopHere))
    show Calls _ _ _ _ _
    have hu113 : Upd [] w11 w13 := u11.trans hu13 (fun y hy => by simp at hy; exact .inr (by omega))
    have hR13 := hR12.upd hu13 (by simpa using hnt g2 hlR)
    have hB13 := hB12.upd hu13 (by simpa using hnt g1 hlB)
    have hI13 := hu13.at hb12 (hnt _ hlb)
    have hU13 := hU11.trans hu113 (fun _ h => .inl h)
    have hs113 := hu113.size
    have hlG := lt_of_block hb13
    refine (cloneN _).mono ?_
    rintro e w14 ⟨rfl, hw14⟩
    have hC14 : Row w14 5 1 none 0 0 [] := Row.nil
    have hu14 : Upd [] w13 w14 := by rw [hw14]; exact Upd.refl _ _
    clear hw14
    dsimp only
    have hR14 := hR13.upd hu14 (by simp)
    have hB14 := hB13.upd hu14 (by simp)
    have hI14 := hu14.at hI13 (by simp)
    have hG14 := hu14.at hb13 (by simp)
    have hU14 := hU13.trans hu14 (fun _ h => .inl h)
    have hs13 := hU13.size
    have hsm := hu14.size
    have hrR := hR14.view 0 YR (fun j v hj => by rw [Nat.zero_add]; exact hj)
    clear hR11 hB11 hb11 hU11 hR12 hB12 hb12 hR13 hB13 hI13 hb13 hU13 hu13 k11 u11
    go_wp2_with (first
      | (at_builtin; (refine wpList_appG _ (by rfl) (.tmp 68) (.tmp 69) 29 29 rfl 5 (.int .u8 0) 1 1 Tryz.underlying29 Tryz.info5 rfl (by decide) hC14 rfl (Src.ofRange Tryz.underlying29 (n := NR) (by have := HR.out; omega) hrR hRb.one) rfl (by decide) (by omega) ?_); intro a15 c15 w15 hA15 hu15 hi15; simp only [Act.put])
      | (go_at_call 12; apply stopHere))
    show Calls _ _ _ _ _
    rw [Nat.zero_add, List.nil_append] at hA15
    rw [← HR.out] at hB14
    try rw [← HR.out]
    have hE := bytesEqual (some ⟨g1, 0, none⟩) a15 NR NR cg1 c15 YR w15 (hB14.toView.upd hu15 (by simp)) hA15.toView hRb
    with_reducible refine hE.mono ?_
    rintro e w16 ⟨rfl, rfl⟩
    clear hE
    have hu15' : Upd [] w13 w16 := hu14.trans hu15 (fun y hy => by simp at hy)
    have hI16 : w16.heap[w6.heap.size]? = some (.cells #[.bool ov, .int .i64 b, .int .i64 xs.length, .int .i64 (rowsOf xs)] 27 (0, 0)) := hu15.at hI14 (by simp)
    have hG16 : w16.heap[w11.heap.size]? = some (.cells #[.bool false, .int .i64 0, .int .i64 xs.length, .int .i64 (rowsOf xs)] 27 (0, 0)) := hu15.at hG14 (by simp)
    have i2 := (cellAt hI16 2).trans rfl
    have i3 := (cellAt hI16 3).trans rfl
    have j2 := (cellAt hG16 2).trans rfl
    have j3 := (cellAt hG16 3).trans rfl
    have hu1116 : Upd [] w11 w16 := hu113.trans hu15' (fun _ h => .inl h)
    have hU16 : Upd [] w w16 := hU14.trans hu15 (fun y hy => by simp at hy)
    have hV16 := hV11.upd hu1116
    clear hI14 hG14 hI16 hG16 hA15 hu15 hi15 hB14 hR14 hrR hU14
    dsimp only
    go_wp2_with (go_at_call 15; apply stopHere)
    show Calls _ _ _ _ _
    refine (bkRows a0 c0 xs hf1 _ (h1.upd hU16) (hw.upd hU16)).mono ?_
    rintro e w17 ⟨⟨ao17, c17, vs17, rfl, hV17⟩, hu17⟩
    have hU17 := hU16.trans hu17 (fun _ h => .inl h)
    have hV16' := hV16.upd hu17
    clear hV16 hu17
    dsimp only
    go_wp2_with (go_at_call 14; apply stopHere)
    show Calls _ _ _ _ _
    refine (bkSame _ _ _ _ _ _ _ _ (by omega) (kept_len hf1) _ hV16' hV17).mono ?_
    rintro e w18 ⟨rfl, hu18⟩
    dsimp only
    go_wp2
    go_ret
    exact ⟨rfl, hU17.trans hu18 (fun _ h => .inl h)⟩
end Go.Proofs.YtgbpabpeddajpaaGreatDoor
