/- The laws' guards over columns. -/
import Derived.Test.YtfbohkbpgfnceaaGreatDoorKX
import Derived.Test.YtfbohkbpgfnceaaGreatDoorKV
namespace Go.Proofs.YtfbohkbpgfnceaaGreatDoor
set_option linter.unusedVariables false
set_option linter.unusedSimpArgs false
open Go Go.RowKit
/-- yes or no -/
def YesNo (e : Ending) : Prop := ∃ b : Bool, e = .returned (.bool b)
set_option maxRecDepth 100000 in
set_option maxHeartbeats 400000 in
theorem zzFits12 (x : Rc) (w : World) : Calls Tryz.prog 11 #[.agg x.cells.toArray] w fun e w' => YesNo e ∧ Upd [] w w' := by
  simp only [Rc.cells]
  by_cases h1 : 2147483647 < x.nm.size
  · have h1' : ((2147483647 : Int) < x.nm.size) := by omega
    go_enter Tryz.func11, Tryz.ntmps11
    go_wp2
    go_ret
    exact ⟨⟨_, rfl⟩, (Upd.refl _ _).alloc _⟩
  · have h1' : ¬ ((2147483647 : Int) < x.nm.size) := by omega
    by_cases h2 : 2147483647 < x.rs.length
    · have h2' : ((2147483647 : Int) < x.rs.length) := by omega
      go_enter Tryz.func11, Tryz.ntmps11
      go_wp2
      go_ret
      exact ⟨⟨_, rfl⟩, (Upd.refl _ _).alloc _⟩
    · have h2' : ¬ ((2147483647 : Int) < x.rs.length) := by omega
      go_enter Tryz.func11, Tryz.ntmps11
      go_wp2
      go_ret
      exact ⟨⟨_, rfl⟩, (Upd.refl _ _).alloc _⟩
set_option maxRecDepth 100000 in
set_option maxHeartbeats 1000000 in
theorem zzFits11 (ar : Option Addr) (c : Nat) (xs : List Rc) (w : World) (h : Rcs w ar xs) :
    Calls Tryz.prog 4 #[.slice ar xs.length c] w fun e w' => YesNo e ∧ Upd [] w w' := by
  obtain ⟨n, hnn⟩ : ∃ n, n = xs.length := ⟨_, rfl⟩
  have hv := h.view
  rw [← hnn] at hv ⊢
  have HN := Lib.hid hnn
  clear hnn
  go_enter Tryz.func4, Tryz.ntmps4
  by_cases hb : 2147483647 < n
  · have hb' : ((2147483647 : Int) < n) := by omega
    go_wp2
    go_ret
    exact ⟨⟨_, rfl⟩, Upd.refl _ _⟩
  · have hb' : ¬ ((2147483647 : Int) < n) := by omega
    go_wp2
    go_loopw [10] (fun i wr => ∃ k : Nat, k ≤ n ∧ i = .int .i64 k ∧ Upd [] w wr)
      (fun i _ => n - (intOf i).toNat)
    case atStart => exact ⟨0, Nat.zero_le _, rfl, Upd.refl _ _⟩
    case round =>
      obtain ⟨k, hk, rfl, hU⟩ := hrel
      by_cases hlt : k < n
      · have hk0 : ((k : Int) < n) := by omega
        have hkb : k < xs.length := by have := HN.out; omega
        obtain ⟨x, hx⟩ : ∃ x, x = xs[k] := ⟨_, rfl⟩
        obtain ⟨bb, oo, rfl, hrr, hbb⟩ := (hv.upd hU (by simp)).at_ (by omega)
        have hcl := cells_at Rc.cells 3 Rc.cells_len hrr k hkb
        rw [← hx] at hcl
        have d0 := hcl 0 (by omega)
        have d1 := hcl 1 (by omega)
        have d2 := hcl 2 (by omega)
        clear hx hcl hrr
        simp only [Rc.cells, Nat.add_zero, List.getElem?_cons_zero, List.getElem?_cons_succ] at d0 d1 d2
        obtain ⟨k3, u3, s3⟩ := alloc_facts wr (Obj.cells #[Value.string x.nm, Value.int IntKind.i64 x.kind, Value.slice x.ar x.rs.length x.cp] 35)
        have r3 := rangeAt_blk (cs := x.cells) k3
        go_wp2_with (first
          | ((with_reducible show wpList _ _ _ _ _ _); refine wpList_load_mid rfl 35 (.tmp 4) rfl wr.heap.size 0 rfl x.cells _ r3 Tryz.underlying35 rfl (by kernel_rfl) ?_)
          | (go_at_call 11; apply stopHere))
        show Calls _ _ _ _ _
        refine (zzFits12 x _).mono ?_
        rintro e w4 ⟨⟨b, rfl⟩, hu4⟩
        have hU4 : Upd [] w w4 := (hU.trans u3 (fun _ h => .inl h)).trans hu4 (fun _ h => .inl h)
        dsimp only
        cases b
        · go_wp2
          go_ret
          exact ⟨⟨_, rfl⟩, hU4⟩
        · go_wp2
          go_roundw
          case rel => exact ⟨k + 1, by omega, by go_num, hU4⟩
          case measure => simp [intOf]; omega
      · have hk0 : ¬ ((k : Int) < n) := by omega
        obtain rfl : k = n := by omega
        go_wp2
        go_ret
        exact ⟨⟨_, rfl⟩, hU⟩
set_option maxRecDepth 100000 in
set_option maxHeartbeats 400000 in
theorem nanAny (x : Int) (w : World) : Calls Tryz.prog 22 #[.int .u32 x] w fun e w' => YesNo e ∧ w' = w := by
  go_enter Tryz.func22, Tryz.ntmps22
  go_wp2
  go_ret
  exact ⟨⟨_, rfl⟩, rfl⟩
set_option maxRecDepth 100000 in
set_option maxHeartbeats 400000 in
theorem ncFew1 (r : R4) (w : World) : Calls Tryz.prog 21 #[.agg r.cells.toArray] w fun e w' => YesNo e ∧ Upd [] w w' := by
  simp only [R4.cells]
  go_enter Tryz.func21, Tryz.ntmps21
  go_wp2_with (go_at_call 22; (refine (nanAny _ _).mono ?_); rintro e w2 ⟨⟨b, rfl⟩, rfl⟩)
  go_ret
  exact ⟨⟨_, rfl⟩, (Upd.refl _ _).alloc _⟩
set_option maxRecDepth 100000 in
set_option maxHeartbeats 1000000 in
theorem indexAny (ar : Option Addr) (n c : Nat) (rs : List R4) (hl : rs.length = n) (hn : n ≤ 1000) (w : World) (hv : View w 4 ar n (rs.flatMap R4.cells)) :
    Calls Tryz.prog 35 #[.slice ar n c, .func (Fn.func 21) #[] #[]] w fun e w' => (∃ z, e = .returned (.int .i64 z)) ∧ Upd [] w w' := by
  go_enter Tryz.func35, Tryz.ntmps35
  go_wp2
  go_loopw [8] (fun i wr => ∃ k : Nat, k ≤ n ∧ i = .int .i64 k ∧ Upd [] w wr)
    (fun i _ => n - (intOf i).toNat)
  case atStart => exact ⟨0, Nat.zero_le _, rfl, Upd.refl _ _⟩
  case round =>
    obtain ⟨k, hk, rfl, hU⟩ := hrel
    by_cases hlt : k < n
    · have hk0 : ((k : Int) < n) := by omega
      obtain ⟨bb, oo, rfl, hrr, hbb⟩ := (hv.upd hU (by simp)).at_ (by omega)
      obtain ⟨r, hx⟩ : ∃ r, r = rs[k]'(by omega) := ⟨_, rfl⟩
      have hp := piece_at R4.cells 4 R4.cells_len hrr k (by omega)
      rw [← hx] at hp
      clear hx hrr
      go_wp2_with (first
        | ((with_reducible show wpList _ _ _ _ _ _); refine wpList_load_mid rfl 67 _ rfl bb (oo + k * 4) rfl r.cells _ hp Tryz.underlying67 rfl (by kernel_rfl) ?_)
        | (go_at_call 21; apply stopHere))
      show Calls _ _ _ _ _
      refine (ncFew1 r _).mono ?_
      rintro e w2 ⟨⟨b, rfl⟩, hu2⟩
      have hU2 : Upd [] w w2 := hU.trans hu2 (fun _ h => .inl h)
      dsimp only
      cases b
      · go_wp2
        go_roundw
        case rel => exact ⟨k + 1, by omega, by go_num, hU2⟩
        case measure => simp [intOf]; omega
      · go_wp2
        go_ret
        exact ⟨⟨_, rfl⟩, hU2⟩
    · have hk0 : ¬ ((k : Int) < n) := by omega
      obtain rfl : k = n := by omega
      go_wp2
      go_ret
      exact ⟨⟨_, rfl⟩, hU⟩
set_option maxRecDepth 100000 in
set_option maxHeartbeats 400000 in
theorem containsAny (ar : Option Addr) (n c : Nat) (rs : List R4) (hl : rs.length = n) (hn : n ≤ 1000) (w : World) (hv : View w 4 ar n (rs.flatMap R4.cells)) :
    Calls Tryz.prog 20 #[.slice ar n c, .func (Fn.func 21) #[] #[]] w fun e w' => YesNo e ∧ Upd [] w w' := by
  go_enter Tryz.func20, Tryz.ntmps20
  go_wp2_with (go_at_call 35; (refine (indexAny ar n c rs hl hn _ hv).mono ?_); rintro e w2 ⟨⟨z, rfl⟩, hu2⟩)
  go_ret
  exact ⟨⟨_, rfl⟩, hu2⟩
set_option maxRecDepth 100000 in
set_option maxHeartbeats 1000000 in
theorem ncFewAny (k n c : Nat) (hk : k < 22) (ar : Option Addr) (rs : List R4) (hl : rs.length = n) (hn : n ≤ 1000) (w : World) (hv : View w 4 ar n (rs.flatMap R4.cells)) (hw : Wds w) :
    Calls Tryz.prog 12 #[.int .i64 k, .slice ar n c] w fun e w' => YesNo e ∧ Upd [] w w' := by
  obtain ⟨W, hW⟩ : ∃ W, W = widths.getD k 0 := ⟨_, rfl⟩
  have hnw := ncWidth k hk w hw
  rw [← hW] at hnw
  clear hW
  by_cases h0 : W = 0
  · have h0' : (W == 0) = true := by simp [h0]
    go_enter Tryz.func12, Tryz.ntmps12
    go_wp2_with (go_at_call 19; (refine hnw.mono ?_); rintro e w2 ⟨rfl, rfl⟩)
    go_ret
    exact ⟨⟨_, rfl⟩, Upd.refl _ _⟩
  · have h0' : (W == 0) = false := beq_eq_false_iff_ne.2 h0
    by_cases h6 : 60 < n
    · have h6' : ((60 : Int) < n) := by omega
      go_enter Tryz.func12, Tryz.ntmps12
      go_wp2_with (go_at_call 19; (refine hnw.mono ?_); rintro e w2 ⟨rfl, rfl⟩)
      go_ret
      exact ⟨⟨_, rfl⟩, Upd.refl _ _⟩
    · have h6' : ¬ ((60 : Int) < n) := by omega
      by_cases h15 : k = 15
      · subst h15
        go_enter Tryz.func12, Tryz.ntmps12
        go_wp2_with (first
          | (go_at_call 19; (refine hnw.mono ?_); rintro e w2 ⟨rfl, rfl⟩)
          | (go_at_call 20; (refine (containsAny ar n c rs hl hn _ hv).mono ?_); rintro e w3 ⟨⟨b, rfl⟩, hu3⟩))
        go_ret
        exact ⟨⟨_, rfl⟩, hu3⟩
      · have h15' : ((k : Int) == 15) = false := beq_eq_false_iff_ne.2 (by omega)
        go_enter Tryz.func12, Tryz.ntmps12
        go_wp2_with (go_at_call 19; (refine hnw.mono ?_); rintro e w2 ⟨rfl, rfl⟩)
        go_ret
        exact ⟨⟨_, rfl⟩, Upd.refl _ _⟩
theorem toList_e (s : ByteArray) (h : ¬ 0 < s.size) : s.toList.isEmpty = true := by
  rw [ByteArray.toList_eq]
  cases hl : s.data.toList with
  | nil => rfl
  | cons a l =>
    have : s.data.toList.length = l.length + 1 := by rw [hl]; rfl
    rw [Array.length_toList] at this
    have h2 : s.size = s.data.size := rfl
    omega
end Go.Proofs.YtfbohkbpgfnceaaGreatDoor
