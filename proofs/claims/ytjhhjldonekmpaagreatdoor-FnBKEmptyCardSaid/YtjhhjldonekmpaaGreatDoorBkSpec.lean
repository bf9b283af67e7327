/- What the reference and the law itself compute of a block without columns. -/
import Derived.Test.YtjhhjldonekmpaaGreatDoorBkEnc
namespace Go.Proofs.YtjhhjldonekmpaaGreatDoor
open Go Go.RowKit
/-- new bytes, of a slice of their own -/
def MadeB (w : World) (n : Nat) (bs : List Value) (e : Ending) (w' : World) : Prop :=
  ∃ ao' c', e = .returned (.slice ao' n c') ∧ Row w' 5 1 ao' n c' bs ∧ Upd [] w w' ∧ In [] w.heap.size ao'
set_option maxRecDepth 100000 in
set_option maxHeartbeats 400000 in
theorem pkBool (b : Bool) (w : World) : Calls Tryz.prog 36 #[.bool b] w fun e w' => e = .returned (bitV b) ∧ w' = w := by
  cases b <;> (go_enter Tryz.func36, Tryz.ntmps36) <;> go_wp2 <;> (go_ret; exact ⟨rfl, rfl⟩)
theorem View.srcB {w : World} {ao : Option Addr} {n c : Nat} {bs : List Value} (hv : View w 1 ao n bs) (h1 : ∀ u ∈ bs, u.oneCell' = true) : Src Tryz.prog 1 27 (.slice ao n c) n bs w := by
  have hl := hv.len
  by_cases h0 : n = 0
  · subst h0
    obtain rfl : bs = [] := List.eq_nil_of_length_eq_zero (by simpa using hl)
    cases ao with
    | none => exact Src.ofNil _ Tryz.underlying27 _
    | some a => exact Src.ofSlice _ Tryz.underlying27 a 0 _ [] rfl (by simp) (by simp)
  · obtain ⟨b, o, rfl, hr, _⟩ := hv.at_ (by omega)
    exact Src.ofRange Tryz.underlying27 (by omega) hr h1
set_option maxRecDepth 100000 in
set_option maxHeartbeats 1000000 in
theorem PRVar1 (x : Int) (h0 : 0 ≤ x) (hx : x < 128) (w : World) : Calls Tryz.prog 38 #[.int .u64 x] w (MadeB w 1 [.int .u8 x]) := by
  have hx' : ¬ (128 : Int) ≤ x := by omega
  have hw : x % 256 = x := by omega
  go_enter Tryz.func38, Tryz.ntmps38
  go_wp2
  go_loopw [0, 3] (fun a s wr => a = .int .u64 x ∧ s = .slice none 0 0 ∧ wr = w) (fun _ _ _ => 0)
  case atStart => exact ⟨rfl, rfl, rfl⟩
  case round =>
    obtain ⟨rfl, rfl, hw0⟩ := hrel
    subst hw0
    go_wp2_with (at_builtin; refine wpList_app1 _ rfl _ _ 27 rfl 5 (.int .u8 0) 1 1 Tryz.underlying27 Tryz.info5 rfl (by decide) Row.nil rfl [.int .u8 x] (by first | rfl | simp [hw]) rfl rfl (by simp [Value.oneCell']) (by decide) (by omega) ?_; intro ao1 c1 w1 hown1 hupd1 hin1)
    go_ret
    exact ⟨ao1, c1, rfl, by simpa using hown1, hupd1.mono (by simp), hin1⟩
/-- small numbers, each in a byte -/
def smallV (l : List Int) : List Value := l.map (Value.int .u8)
theorem smallV_one (l : List Int) : ∀ u ∈ smallV l, u.oneCell' = true := by
  intro u hu
  obtain ⟨x, _, rfl⟩ := List.mem_map.1 hu
  rfl
set_option maxRecDepth 100000 in
set_option maxHeartbeats 1000000 in
theorem pkInts (ap : Option Addr) (n cp : Nat) (l : List Int) (hl : ∀ x ∈ l, 0 ≤ x ∧ x < 128) (hn : n ≤ 1000) (w : World) (hv : View w 1 ap n (l.map (Value.int .i64))) :
    Calls Tryz.prog 19 #[.slice ap n cp] w (MadeB w n (smallV l)) := by
  have hll : l.length = n := by have := hv.len; simpa using this
  go_enter Tryz.func19, Tryz.ntmps19
  go_wp2
  go_loopw [3, 8] (fun s i wr => ∃ (k : Nat) (ao : Option Addr) (c : Nat), k ≤ n ∧ i = .int .i64 k ∧ s = .slice ao k c ∧ Row wr 5 1 ao k c (smallV (l.take k)) ∧ Upd [] w wr ∧ In [] w.heap.size ao)
    (fun _ i _ => n - (intOf i).toNat)
  case atStart => exact ⟨0, none, 0, Nat.zero_le _, rfl, rfl, Row.nil, Upd.refl _ _, In.nil⟩
  case round =>
    obtain ⟨k, ao, c, hk, rfl, rfl, hown, hupd, hin⟩ := hrel
    by_cases hlt : k < n
    · have h0 : ((k : Int) < n) := by omega
      obtain ⟨b, o, rfl, hr, hbl⟩ := hv.at_ (by omega)
      obtain ⟨x, hx⟩ : ∃ x, l[k]? = some x := ⟨l[k]'(by omega), by simp⟩
      have hxx := hl x (List.mem_of_getElem? hx)
      have q0 : wr.cell? ⟨b, o + k, none⟩ = some (.int .i64 x) := by
        rw [hupd.cell hbl (by simp)]
        refine hr k _ ?_
        rw [List.getElem?_map, hx]; rfl
      have hwx : x % 18446744073709551616 = x := by omega
      have HX := Lib.hid hx
      clear hx hr hll
      go_wp2_with (first
        | (go_at_call 38; apply stopHere))
      show Calls _ _ _ _ _
      try rw [hwx]
      refine (PRVar1 x hxx.1 hxx.2 _).mono ?_
      rintro e w2 ⟨ao2, c2, rfl, hR2, hu2, hi2⟩
      dsimp only
      have hown2 := hown.upd hu2 (by simp)
      go_wp2_with (at_builtin; refine wpList_app _ rfl (.tmp 12) (.tmp 15) 27 27 rfl 5 (.int .u8 0) 1 1 Tryz.underlying27 Tryz.info5 rfl (by decide) hown2 rfl (View.srcB hR2.toView (by simp [Value.oneCell'])) rfl (by decide) (by omega) ?_; intro ao3 c3 w3 hown3 hupd3 hin3)
      have hU3 : Upd [] w w3 := (hupd.trans hu2 (fun _ h => .inl h)).own hupd3 (hin.mono (Nat.le_refl _) (fun _ h => .inl h))
      have hI3 := hin.step hin3 (Nat.le_trans hupd.size hu2.size)
      have hR3 : Row w3 5 1 ao3 (k + 1) c3 (smallV (l.take (k + 1))) := by
        have e : smallV (l.take (k + 1)) = smallV (l.take k) ++ [.int .u8 x] := by
          unfold smallV
          rw [List.take_add_one, HX.out, List.map_append]; rfl
        rw [e]; exact hown3
      clear hown2 hown3 hown hR2 hupd3
      go_roundw
      case rel => exact ⟨k + 1, ao3, c3, by omega, by go_num, rfl, hR3, hU3, hI3⟩
      case measure => simp [intOf]; omega
    · have h0 : (n : Int) ≤ k := by omega
      obtain rfl : k = n := by omega
      rw [List.take_of_length_le (by omega)] at hown
      go_wp2
      go_ret
      exact ⟨ao, c, rfl, hown, hupd, hin⟩
theorem lowV4 (u v : Int) : lowV u v 4 = leV 4 u := by
  unfold lowV leV
  apply List.map_congr_left
  intro i hi
  simp at hi
  simp [low16, show ¬ 8 ≤ i by omega, Nat.mod_eq_of_lt (show i < 8 by omega)]
theorem View.ofAlloc (w : World) (T : TypeId) (cs : List Value) (n : Nat) (hn : cs.length = n) : View (w.alloc (.cells cs.toArray T)) 1 (some ⟨w.heap.size, 0, none⟩) n cs :=
  ⟨by omega, fun _ => ⟨w.heap.size, 0, rfl, rangeAt_blk (heap_alloc_new _ _), by simp⟩⟩
theorem Row.ofAlloc (w : World) (T : TypeId) (cs : List Value) (n : Nat) (hn : cs.length = n) (hm : n ≤ maxLen) : Row (w.alloc (.cells cs.toArray T)) T 1 (some ⟨w.heap.size, 0, none⟩) n n cs :=
  Row.of _ (heap_alloc_new _ _) (Nat.le_refl _) hm (by simp [hn]) (by rw [List.take_of_length_le (by simp [hn])])
set_option maxRecDepth 100000 in
set_option maxHeartbeats 1000000 in
theorem specInfo (ov : Bool) (b : Int) (w : World) : Calls Tryz.prog 18 #[.bool ov, .int .i64 b] w (MadeB w 8 (infoV ov b)) := by
  have hl4 : leV 4 (IntKind.u64.wrap b) = leV 4 b := by rw [IntKind.wrap_u64]; exact leV_wrap64 b
  have hpb := pkBool ov
  obtain ⟨y, hy⟩ : ∃ y, bitV ov = .int .u8 y := ⟨_, rfl⟩
  rw [hy] at hpb
  have hin : infoV ov b = [.int .u8 1, .int .u8 y, .int .u8 2] ++ leV 4 b ++ [.int .u8 0] := by rw [infoV, hy]
  rw [hin]
  clear hy hin
  have hR0 := Row.ofAlloc w 5 [.int .u8 1, .int .u8 y, .int .u8 2] 3 rfl (by decide)
  have u0 := (Upd.refl [] w).alloc (Obj.cells #[.int .u8 1, .int .u8 y, .int .u8 2] 5)
  go_enter Tryz.func18, Tryz.ntmps18
  go_wp2_with (first
    | (go_at_call 36; (refine (hpb _).mono ?_); rintro e w1 ⟨rfl, rfl⟩)
    | (go_at_call 37; (refine (PRLow _ 0 4 (by decide) _).mono ?_); rintro e w2 ⟨ao2, c2, rfl, hR2, hu2, hi2⟩; rw [lowV4, hl4] at hR2; have hR1 := hR0.upd hu2 (by simp))
    | (at_builtin; refine wpList_app _ rfl (.tmp 9) (.tmp 12) 27 27 rfl 5 (.int .u8 0) 1 1 Tryz.underlying27 Tryz.info5 rfl (by decide) hR1 rfl (View.srcB hR2.toView (leV_bytes 4 b).one) rfl (by decide) (by omega) ?_; intro ao3 c3 w3 hown3 hupd3 hin3)
    | (at_builtin; refine wpList_app1 _ rfl (.tmp 13) (.tmp 14) 27 rfl 5 (.int .u8 0) 1 1 Tryz.underlying27 Tryz.info5 rfl (by decide) hown3 rfl [.int .u8 0] rfl rfl rfl (by simp [Value.oneCell']) (by decide) (by omega) ?_; intro ao4 c4 w4 hown4 hupd4 hin4))
  go_ret
  have hI1 : In [] w1.heap.size (some ⟨w1.heap.size, 0, none⟩) := fun y hy => by simp at hy; exact .inr (by omega)
  have hU3 : Upd [] w1 w3 := (u0.trans hu2 (fun _ h => .inl h)).own hupd3 hI1
  have hs2 : w1.heap.size ≤ w2.heap.size := (u0.trans hu2 (fun _ h => .inl h)).size
  have hI3 := hI1.step hin3 hs2
  have hU4 := hU3.own hupd4 hI3
  exact ⟨ao4, c4, rfl, hown4, hU4, hI3.step hin4 hU3.size⟩
set_option maxRecDepth 100000 in
set_option maxHeartbeats 1000000 in
theorem specBytes (ov : Bool) (b v : Int) (w : World) : Calls Tryz.prog 9 #[headV ov b 0 0, .int .i64 v, .slice none 0 0] w (MadeB w (blockV v ov b).length (blockV v ov b)) := by
  obtain ⟨k1, u1, s1⟩ := alloc_facts w (Obj.cells #[.bool ov, .int .i64 b, .int .i64 0, .int .i64 0] 25)
  have hcells : ∀ wx : World, Upd [] (w.alloc (Obj.cells #[.bool ov, .int .i64 b, .int .i64 0, .int .i64 0] 25)) wx → wx.cell? ⟨w.heap.size, 0, none⟩ = some (.bool ov) ∧ wx.cell? ⟨w.heap.size, 1, none⟩ = some (.int .i64 b) ∧ wx.cell? ⟨w.heap.size, 2, none⟩ = some (.int .i64 0) ∧ wx.cell? ⟨w.heap.size, 3, none⟩ = some (.int .i64 0) := fun wx hx => by
    have := hx.at k1 (by simp)
    refine ⟨?_, ?_, ?_, ?_⟩ <;> simp [World.cell?, this]
  obtain ⟨p0, p1, p2, p3⟩ := hcells _ (Upd.refl _ _)
  clear k1
  have hbl : (blockV v ov b).length = if 51903 ≤ v then 10 else 2 := blockV_len v ov b
  by_cases hv : 51903 ≤ v
  · rw [if_pos hv] at hbl
    have hbv : blockV v ov b = infoV ov b ++ smallV [0, 0] := by simp [blockV, hv, smallV]
    rw [hbl, hbv]
    clear hbl hbv
    go_enter Tryz.func9, Tryz.ntmps9
    simp only [headV]
    go_wp2_with (first
      | (go_at_call 18; (refine (specInfo ov b _).mono ?_); rintro e w2 ⟨ao2, c2, rfl, hR2, hu2, hi2⟩; obtain ⟨q0, q1, q2, q3⟩ := hcells _ hu2)
      | (go_at_call 19; (refine (pkInts _ 2 2 [0, 0] (by simp) (by decide) _ (View.ofAlloc w2 3 [.int .i64 0, .int .i64 0] 2 rfl)).mono ?_); rintro e w3 ⟨ao3, c3, rfl, hR3, hu3, hi3⟩; have hu23 : Upd [] w2 w3 := ((Upd.refl [] w2).alloc _).trans hu3 (fun _ h => .inl h); have hR2' := hR2.upd hu23 (by simp))
      | (at_builtin; refine wpList_app _ rfl (.tmp 17) (.tmp 23) 27 27 rfl 5 (.int .u8 0) 1 1 Tryz.underlying27 Tryz.info5 rfl (by decide) hR2' rfl (View.srcB hR3.toView (smallV_one _)) rfl (by decide) (by omega) ?_; intro ao4 c4 w4 hown4 hupd4 hin4))
    go_loopw [7, 27] (fun s i wr => i = .int .i64 0 ∧ s = .slice ao4 10 c4 ∧ wr = w4) (fun _ _ _ => 0)
    case atStart => exact ⟨rfl, rfl, rfl⟩
    case round =>
      obtain ⟨rfl, rfl, hw⟩ := hrel
      subst hw
      go_wp2
      go_ret
      have hu12 := u1.trans hu2 (fun _ h => .inl h)
      have hI2 := hi2.le u1.size
      exact ⟨ao4, c4, rfl, hown4, (hu12.trans hu23 (fun _ h => .inl h)).own hupd4 hI2, hI2.step hin4 (hu12.trans hu23 (fun _ h => .inl h)).size⟩
  · rw [if_neg hv] at hbl
    have hbv : blockV v ov b = [] ++ smallV [0, 0] := by simp [blockV, hv, smallV]
    rw [hbl, hbv]
    clear hbl hbv
    have hv0 := View.ofAlloc (w.alloc (Obj.cells #[.bool ov, .int .i64 b, .int .i64 0, .int .i64 0] 25)) 3 [.int .i64 0, .int .i64 0] 2 rfl
    rw [s1] at hv0
    go_enter Tryz.func9, Tryz.ntmps9
    simp only [headV]
    go_wp2_with (first
      | (go_at_call 19; (refine (pkInts (some ⟨w.heap.size + 1, 0, none⟩) 2 2 [0, 0] (by simp) (by decide) _ hv0).mono ?_); rintro e w3 ⟨ao3, c3, rfl, hR3, hu3, hi3⟩)
      | (at_builtin; refine wpList_app _ rfl (.tmp 17) (.tmp 23) 27 27 rfl 5 (.int .u8 0) 1 1 Tryz.underlying27 Tryz.info5 rfl (by decide) Row.nil rfl (View.srcB hR3.toView (smallV_one _)) rfl (by decide) (by omega) ?_; intro ao4 c4 w4 hown4 hupd4 hin4))
    go_loopw [7, 27] (fun s i wr => i = .int .i64 0 ∧ s = .slice ao4 2 c4 ∧ wr = w4) (fun _ _ _ => 0)
    case atStart => exact ⟨rfl, rfl, rfl⟩
    case round =>
      obtain ⟨rfl, rfl, hw⟩ := hrel
      subst hw
      go_wp2
      go_ret
      have hu13 : Upd [] w w3 := (u1.alloc _).trans hu3 (fun _ h => .inl h)
      exact ⟨ao4, c4, rfl, hown4, hu13.trans hupd4 (by simp), hin4.le hu13.size⟩

/-! ### the law's own words -/
set_option maxRecDepth 100000 in
set_option maxHeartbeats 400000 in
theorem pkVersion (x : Int) (h0 : 0 ≤ x) (hx : x < 65536) (w : World) : Calls Tryz.prog 4 #[.int .u16 x] w fun e w' => e = .returned (.int .i64 (50000 + x % 4501)) ∧ w' = w := by
  have h1 : x.tmod 4501 = x % 4501 := Int.tmod_eq_emod_of_nonneg h0
  have h2 : IntKind.i64.wrap x = x := IntWalk.i64_in _ (by omega)
  have h3 : IntKind.i64.wrap (50000 + x % 4501) = 50000 + x % 4501 := IntWalk.i64_in _ (by omega)
  go_enter Tryz.func4, Tryz.ntmps4
  go_wp2
  go_ret
  exact ⟨by first | rfl | simp [h1], rfl⟩
set_option maxRecDepth 100000 in
set_option maxHeartbeats 1000000 in
theorem bkInfo0 (ov : Bool) (b : Int) (hb : -2147483648 ≤ b ∧ b < 2147483648) (w : World) : Calls Tryz.prog 5 #[.bool ov, .int .i32 b, .slice none 0 0] w fun e w' => e = .returned (headV ov b 0 0) ∧ Upd [] w w' := by
  have hw : IntKind.i64.wrap b = b := IntWalk.i64_in _ (by omega)
  obtain ⟨k1, u1, s1⟩ := alloc_facts w (Obj.cells #[.bool ov, .int .i64 b, .int .i64 0, .int .i64 0] 25)
  obtain ⟨k2, u2, s2⟩ := alloc_facts (w.alloc (Obj.cells #[.bool ov, .int .i64 b, .int .i64 0, .int .i64 0] 25)) (Obj.cells #[.bool ov, .int .i64 b, .int .i64 0, .int .i64 0] 25)
  have k1' := u2.at k1 (by simp)
  go_enter Tryz.func5, Tryz.ntmps5
  go_wp2
  refine bodyPost_ret (v := headV ov b 0 0) (results_cell1 Tryz.results5 (b := w.heap.size) rfl (run_loadVar_mid _ w.heap.size 0 25 [.bool ov, .int .i64 b, .int .i64 0, .int .i64 0] _ (rangeAt_blk k1') Tryz.underlying25 rfl (by kernel_rfl))) rfl ⟨rfl, ?_⟩
  exact u1.trans u2 (fun _ h => .inl h)
end Go.Proofs.YtjhhjldonekmpaaGreatDoor
