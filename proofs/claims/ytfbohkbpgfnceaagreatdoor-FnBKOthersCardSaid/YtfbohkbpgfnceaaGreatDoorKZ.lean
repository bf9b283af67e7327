/- The law's guard over columns; what is told of a block; the rows that columns keep. -/
import Derived.Test.YtfbohkbpgfnceaaGreatDoorKY
import Derived.StillTailTactics
namespace Go.Proofs.YtfbohkbpgfnceaaGreatDoor
set_option linter.unusedVariables false
set_option linter.unusedSimpArgs false
open Go Go.RowKit
/-- yes where the columns are such as a law speaks of -/
def FitSaid (R : Nat) (xs : List Rc) (e : Ending) : Prop := ∃ b : Bool, e = .returned (.bool b) ∧ (b = true → Fit R xs)
theorem Upd.drewN {F : List Nat} {a w : World} (h : Upd F a w) (n : Nat) : Upd F a (w.drewN n) := ⟨h.os, h.tape, h.output, h.size, h.block⟩
def rowsOf (xs : List Rc) : Nat := match xs with | [] => 0 | x :: _ => x.rs.length
set_option maxRecDepth 100000 in
set_option maxHeartbeats 4000000 in
theorem bkFit (ar : Option Addr) (c : Nat) (xs : List Rc) (w : World) (h : Rcs w ar xs) (hw : Wds w) :
    Calls Tryz.prog 5 #[.slice ar xs.length c] w fun e w' => FitSaid (rowsOf xs) xs e ∧ Upd [] w w' := by
  obtain ⟨n, hnn⟩ : ∃ n, n = xs.length := ⟨_, rfl⟩
  have hv := h.view
  rw [← hnn] at hv ⊢
  have HN := Lib.hid hnn
  clear hnn
  go_enter Tryz.func5, Tryz.ntmps5
  by_cases hn1 : n < 1
  · have hn1' : ((n : Int) < 1) := by omega
    go_wp2
    go_ret
    exact ⟨⟨false, rfl, fun h => by cases h⟩, Upd.refl _ _⟩
  · have hn1' : ¬ ((n : Int) < 1) := by omega
    by_cases hn5 : 5 < n
    · have hn5' : ((5 : Int) < n) := by omega
      go_wp2
      go_ret
      exact ⟨⟨false, rfl, fun h => by cases h⟩, Upd.refl _ _⟩
    · have hn5' : ¬ ((5 : Int) < n) := by omega
      have hn00 : 0 < n := by omega
      obtain ⟨y, hy⟩ : ∃ y, y = xs[0]'(by have := HN.out; omega) := ⟨_, rfl⟩
      have hyR : rowsOf xs = y.rs.length := by
        have := HN.out
        cases xs with
        | nil => simp at this; omega
        | cons a l => simp at hy; rw [hy]; rfl
      obtain ⟨R, hRR⟩ : ∃ R, R = y.rs.length := ⟨_, rfl⟩
      rw [hyR, ← hRR]
      obtain ⟨bb, oo, rfl, hrr, hbb⟩ := hv.at_ (by omega)
      have hcy := cells_at Rc.cells 3 Rc.cells_len hrr 0 (by have := HN.out; omega) 2 (by omega)
      rw [← hy] at hcy
      have m2w : w.cell? ⟨bb, oo + 2, none⟩ = some (.slice y.ar R y.cp) := by
        rw [hRR]
        have h0 : oo + 0 * 3 + 2 = oo + 2 := by omega
        rw [h0] at hcy
        exact hcy
      have HR := Lib.hid hRR
      clear hcy hy hRR hyR
      go_wp2
      go_loopw [15] (fun i wr => ∃ k : Nat, k ≤ n ∧ i = .int .i64 k ∧ Upd [] w wr ∧ ∀ (j : Nat) (hj : j < xs.length), j < k → (1 ≤ xs[j].kind ∧ xs[j].kind ≤ 18) ∧ (0 < xs[j].nm.size ∧ xs[j].nm.size ≤ 30) ∧ xs[j].rs.length = R ∧ 0 < R ∧ R ≤ 20)
        (fun i _ => n - (intOf i).toNat)
      case atStart => exact ⟨0, Nat.zero_le _, rfl, Upd.refl _ _, fun j hj h => absurd h (Nat.not_lt_zero _)⟩
      case round =>
        obtain ⟨k, hk, rfl, hU, hP⟩ := hrel
        by_cases hlt : k < n
        · have hk0 : ((k : Int) < n) := by omega
          have hkb : k < xs.length := by have := HN.out; omega
          obtain ⟨x, hx⟩ : ∃ x, x = xs[k] := ⟨_, rfl⟩
          have hcl := cells_at Rc.cells 3 Rc.cells_len (hU.range hrr hbb (by simp)) k hkb
          have hrv := (h.upd hU).rows (xs[k]) (List.getElem_mem _)
          rw [← hx] at hcl hrv
          have d0 := hcl 0 (by omega)
          have d1 := hcl 1 (by omega)
          have d2 := hcl 2 (by omega)
          have hwW := hw.upd hU
          have m2r := hU.cell1 m2w (by simp)
          have HX := Lib.hid hx
          clear hx hcl
          simp only [Rc.cells, Nat.add_zero, List.getElem?_cons_zero, List.getElem?_cons_succ] at d0 d1 d2
          obtain ⟨x0, x1, x2, x3, x4⟩ := x
          simp only at d0 d1 d2 hrv
          obtain ⟨k3, u3, s3⟩ := alloc_facts wr (Obj.cells #[Value.string x0, Value.int IntKind.i64 x1, Value.slice x3 x2.length x4] 35)
          have n0 := (cellAt k3 0).trans rfl
          have n1 := (cellAt k3 1).trans rfl
          have n2 := (cellAt k3 2).trans rfl
          have m2 := u3.cell1 m2r (by simp)
          have hrv3 := hrv.upd u3 (by simp)
          have hwW3 := hwW.upd u3
          have hU3 : Upd [] w _ := hU.trans u3 (fun _ h => .inl h)
          clear k3
          go_wp2
          generalize wr.alloc (Obj.cells #[Value.string x0, Value.int IntKind.i64 x1, Value.slice x3 x2.length x4] 35) = W1 at *
          clear d0 d1 d2 m2r hrv hwW
          by_cases hc : x1 < 1
          · have g1 : x1 < 1 := hc
            go_quiet (fail)
            go_wp2
            go_ret
            exact ⟨⟨false, rfl, fun h => by cases h⟩, hU3.drewN nq⟩
          have hc1 := hc
          clear hc
          by_cases hc : 18 < x1
          · have g1 : ¬ x1 < 1 := by omega
            have g2 : 18 < x1 := hc
            go_quiet (fail)
            go_wp2
            go_ret
            exact ⟨⟨false, rfl, fun h => by cases h⟩, hU3.drewN nq⟩
          have hc2 := hc
          clear hc
          by_cases hc : ¬ 0 < x0.size
          · have g1 : ¬ x1 < 1 := by omega
            have g2 : ¬ 18 < x1 := by omega
            have g3 := toList_e x0 hc
            go_quiet (fail)
            go_wp2
            go_ret
            exact ⟨⟨false, rfl, fun h => by cases h⟩, hU3.drewN nq⟩
          have hc3 := hc
          clear hc
          by_cases hc : 30 < x0.size
          · have g1 : ¬ x1 < 1 := by omega
            have g2 : ¬ 18 < x1 := by omega
            have g3 := toList_ne x0 (by omega)
            have g4 : (30 : Int) < x0.size := by omega
            go_quiet (fail)
            go_wp2
            go_ret
            exact ⟨⟨false, rfl, fun h => by cases h⟩, hU3.drewN nq⟩
          have hc4 := hc
          clear hc
          by_cases hc : ¬ x2.length = R
          · have g1 : ¬ x1 < 1 := by omega
            have g2 : ¬ 18 < x1 := by omega
            have g3 := toList_ne x0 (by omega)
            have g4 : ¬ (30 : Int) < x0.size := by omega
            have g5 : ((x2.length : Int) != R) = true := bne_iff_ne.2 (by omega)
            go_quiet (fail)
            go_wp2
            go_ret
            exact ⟨⟨false, rfl, fun h => by cases h⟩, hU3.drewN nq⟩
          have hc5 := hc
          clear hc
          by_cases hc : x2.length < 1
          · have g1 : ¬ x1 < 1 := by omega
            have g2 : ¬ 18 < x1 := by omega
            have g3 := toList_ne x0 (by omega)
            have g4 : ¬ (30 : Int) < x0.size := by omega
            have g5 : ((x2.length : Int) != R) = false := by rw [show (x2.length : Int) = R by omega]; simp
            have g6 : (x2.length : Int) < 1 := by omega
            go_quiet (fail)
            go_wp2
            go_ret
            exact ⟨⟨false, rfl, fun h => by cases h⟩, hU3.drewN nq⟩
          have hc6 := hc
          clear hc
          by_cases hc : 20 < x2.length
          · have g1 : ¬ x1 < 1 := by omega
            have g2 : ¬ 18 < x1 := by omega
            have g3 := toList_ne x0 (by omega)
            have g4 : ¬ (30 : Int) < x0.size := by omega
            have g5 : ((x2.length : Int) != R) = false := by rw [show (x2.length : Int) = R by omega]; simp
            have g6 : ¬ (x2.length : Int) < 1 := by omega
            have g7 : (20 : Int) < x2.length := by omega
            go_quiet (fail)
            go_wp2
            go_ret
            exact ⟨⟨false, rfl, fun h => by cases h⟩, hU3.drewN nq⟩
          have hc7 := hc
          clear hc
          have g1 : ¬ x1 < 1 := by omega
          have g2 : ¬ 18 < x1 := by omega
          have g3 := toList_ne x0 (by omega)
          have g4 : ¬ (30 : Int) < x0.size := by omega
          have g5 : ((x2.length : Int) != R) = false := by rw [show (x2.length : Int) = R by omega]; simp
          have g6 : ¬ (x2.length : Int) < 1 := by omega
          have g7 : ¬ (20 : Int) < x2.length := by omega
          obtain ⟨kn, rfl⟩ := Int.eq_ofNat_of_zero_le (show 0 ≤ x1 by omega)
          go_still_tail 47, (by kernel_rfl)
          change wpList _ _ _ _ _ W1.drew
          have hdd := (Upd.refl [] W1).drew
          go_wp2_with (go_at_call 12; apply stopHere)
          show Calls _ _ _ _ _
          refine (ncFewAny kn x2.length x4 (by omega) x3 x2 rfl (by omega) _ (hrv3.upd hdd (by simp)) (hwW3.upd hdd)).mono ?_
          rintro e w5 ⟨⟨b, rfl⟩, hu5⟩
          have hU5 : Upd [] w w5 := (hU3.trans hdd (fun _ h => .inl h)).trans hu5 (fun _ h => .inl h)
          dsimp only
          cases b
          · go_wp2
            go_ret
            exact ⟨⟨false, rfl, fun h => by cases h⟩, hU5⟩
          · go_wp2
            have hP5 : ∀ (j : Nat) (hj : j < xs.length), j < k + 1 → (1 ≤ xs[j].kind ∧ xs[j].kind ≤ 18) ∧ (0 < xs[j].nm.size ∧ xs[j].nm.size ≤ 30) ∧ xs[j].rs.length = R ∧ 0 < R ∧ R ≤ 20 := fun j hj hjk => by
              by_cases hjk' : j < k
              · exact hP j hj hjk'
              · obtain rfl : j = k := by omega
                rw [← HX.out]
                refine ⟨⟨?_, ?_⟩, ⟨?_, ?_⟩, ?_, ?_, ?_⟩
                · show (1 : Int) ≤ kn; omega
                · show (kn : Int) ≤ 18; omega
                · show 0 < x0.size; omega
                · show x0.size ≤ 30; omega
                · show x2.length = R; omega
                · omega
                · omega
            go_roundw
            case rel => exact ⟨k + 1, by omega, by go_num, hU5, hP5⟩
            case measure => simp [intOf]; omega
        · have hk0 : ¬ ((k : Int) < n) := by omega
          obtain rfl : k = n := by omega
          have hfit : Fit R xs := by
            have hnx := HN.out
            have h0 := hP 0 (by omega) (by omega)
            have hm : ∀ x ∈ xs, (1 ≤ x.kind ∧ x.kind ≤ 18) ∧ (0 < x.nm.size ∧ x.nm.size ≤ 30) ∧ x.rs.length = R := fun x hx => by
              obtain ⟨j, hj, rfl⟩ := List.getElem_of_mem hx
              have := hP j hj (by omega)
              exact ⟨this.1, this.2.1, this.2.2.1⟩
            exact ⟨by omega, by omega, fun x hx => (hm x hx).1, fun x hx => (hm x hx).2.1, fun x hx => (hm x hx).2.2, h0.2.2.2.1, h0.2.2.2.2⟩
          have HF := Lib.hid hfit
          clear hfit hP
          go_wp2
          go_ret
          exact ⟨⟨true, rfl, fun _ => HF.out⟩, hU⟩
theorem pkVersion (x : Int) (h0 : 0 ≤ x) (hx : x < 65536) (w : World) : Calls Tryz.prog 6 #[.int .u16 x] w fun e w' => e = .returned (.int .i64 (50000 + x % 4501)) ∧ w' = w := by
  have h1 : x.tmod 4501 = x % 4501 := Int.tmod_eq_emod_of_nonneg h0
  have h2 : IntKind.i64.wrap x = x := IntWalk.i64_in _ (by omega)
  have h3 : IntKind.i64.wrap (50000 + x % 4501) = 50000 + x % 4501 := IntWalk.i64_in _ (by omega)
  go_enter Tryz.func6, Tryz.ntmps6
  go_wp2
  go_ret
  exact ⟨by first | rfl | simp [h1], rfl⟩
set_option maxRecDepth 100000 in
set_option maxHeartbeats 1000000 in
theorem bkInfo (ov : Bool) (b : Int) (hb : -2147483648 ≤ b ∧ b < 2147483648) (ar : Option Addr) (c : Nat) (xs : List Rc) (hn : 0 < xs.length) (w : World) (h : Rcs w ar xs) :
    Calls Tryz.prog 8 #[.bool ov, .int .i32 b, .slice ar xs.length c] w fun e w' => e = .returned (headV ov b xs.length (rowsOf xs)) ∧ Upd [] w w' := by
  have hwb : IntKind.i64.wrap b = b := IntWalk.i64_in _ (by omega)
  obtain ⟨n, hnn⟩ : ∃ n, n = xs.length := ⟨_, rfl⟩
  have hv := h.view
  obtain ⟨y, l, rfl⟩ : ∃ y l, xs = y :: l := by
    cases xs with
    | nil => simp at hn
    | cons y l => exact ⟨y, l, rfl⟩
  obtain ⟨bb, oo, rfl, hrr, hbb⟩ := hv.at_ hn
  have hcy := cells_at Rc.cells 3 Rc.cells_len hrr 0 hn 2 (by omega)
  have m2w : w.cell? ⟨bb, oo + 2, none⟩ = some (.slice y.ar y.rs.length y.cp) := by
    have h0 : oo + 0 * 3 + 2 = oo + 2 := by omega
    rw [h0] at hcy
    exact hcy
  rw [← hnn] at hn ⊢
  have hn' : (0 : Int) < n := by omega
  show Calls _ _ _ _ fun e w' => e = .returned (headV ov b n y.rs.length) ∧ Upd [] w w'
  clear hcy hrr hv hnn
  obtain ⟨k1, u1, s1⟩ := alloc_facts w (Obj.cells #[.bool false, .int .i64 0, .int .i64 0, .int .i64 0] 30)
  obtain ⟨k2, u2, s2⟩ := alloc_facts (w.alloc (Obj.cells #[.bool false, .int .i64 0, .int .i64 0, .int .i64 0] 30)) (Obj.cells #[.bool ov, .int .i64 b, .int .i64 n, .int .i64 0] 30)
  have k1' := u2.at k1 (by simp)
  have u12 := u1.trans u2 (fun _ h => .inl h)
  have m2 := u12.cell1 m2w (by simp)
  rw [s1] at k2 s2
  go_enter Tryz.func8, Tryz.ntmps8
  go_wp2
  obtain ⟨j1, v1, t1⟩ := alloc_facts w (Obj.cells #[.bool ov, .int .i64 b, .int .i64 n, .int .i64 y.rs.length] 30)
  obtain ⟨j2, v2, t2⟩ := alloc_facts (w.alloc (Obj.cells #[.bool ov, .int .i64 b, .int .i64 n, .int .i64 y.rs.length] 30)) (Obj.cells #[.bool ov, .int .i64 b, .int .i64 n, .int .i64 y.rs.length] 30)
  have j1' := v2.at j1 (by simp)
  refine bodyPost_ret (v := headV ov b n y.rs.length) (results_cell1 Tryz.results8 (b := w.heap.size) rfl (run_loadVar_mid _ w.heap.size 0 30 [.bool ov, .int .i64 b, .int .i64 n, .int .i64 y.rs.length] _ (rangeAt_blk j1') Tryz.underlying30 rfl (by kernel_rfl))) rfl ⟨rfl, ?_⟩
  exact v1.trans v2 (fun _ h => .inl h)
/-- the rows that a column keeps, as they are told -/
def keptR (x : Rc) : List R4 := x.rs.map (kd x.kind).kept
end Go.Proofs.YtfbohkbpgfnceaaGreatDoor
