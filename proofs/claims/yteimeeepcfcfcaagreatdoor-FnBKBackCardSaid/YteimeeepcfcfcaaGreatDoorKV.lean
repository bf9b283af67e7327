/- What a kind keeps of a row, as the specification tells it. -/
import Derived.Test.YteimeeepcfcfcaaGreatDoorKU
import Derived.StillTailTactics
namespace Go.Proofs.YteimeeepcfcfcaaGreatDoor
set_option maxRecDepth 100000
set_option maxHeartbeats 2000000
set_option linter.unusedVariables false
set_option linter.unusedSimpArgs false
open Go Go.RowKit
/-- the lowest bytes of a word -/
def mw (x : Int) : Nat → Int
  | 0 => 0
  | 1 => x % 256
  | 2 => x % 65536
  | 3 => x % 16777216
  | 4 => x % 4294967296
  | 5 => x % 1099511627776
  | 6 => x % 281474976710656
  | 7 => x % 72057594037927936
  | 8 => x % 18446744073709551616
  | _ => x
/-- the lowest bytes of a row -/
def mrow (r : R4) (W : Nat) : R4 := ⟨mw r.a (min W 8), mw r.b (min (W - 8) 8), mw r.c (min (W - 16) 8), mw r.d (min (W - 24) 8)⟩
/-- how many bytes a row of each kind has -/
def widths : List Int := [0, 1, 2, 4, 8, 16, 32, 1, 2, 4, 8, 16, 32, 4, 8, 2, 1, 4, 16, 16, 1, 2]
/-- the table of widths stands where it stood -/
def Wds (w : World) : Prop := ∀ i : Nat, i < 22 → w.cell? ⟨0, i, none⟩ = some (.int .i64 (widths.getD i 0))
theorem Wds.upd {w w' : World} (h : Wds w) (hu : Upd [] w w') : Wds w' := fun i hi => hu.cell1 (h i hi) (by simp)
theorem ncWidth (n : Nat) (hn : n < 22) (w : World) (hw : Wds w) : Calls Tryz.prog 27 #[.int .i64 n] w fun e w' => e = .returned (.int .i64 (widths.getD n 0)) ∧ w' = w := by
  have hc := hw n hn
  have h1 : ¬ (n : Int) < 0 := by omega
  have h2 : ¬ (22 : Int) ≤ n := by omega
  have h3 : (n : Int) < 22 := by omega
  go_enter Tryz.func27, Tryz.ntmps27
  go_wp2
  go_ret
  exact ⟨rfl, rfl⟩
theorem nat_and_mask (x n : Nat) : x &&& (255 * 2 ^ n) = (x / 2 ^ n % 256) * 2 ^ n := by
  apply Nat.eq_of_testBit_eq
  intro i
  rw [← Nat.shiftLeft_eq, ← Nat.shiftLeft_eq, Nat.testBit_and, Nat.testBit_shiftLeft, Nat.testBit_shiftLeft]
  have h1 : Nat.testBit 255 (i - n) = decide (i - n < 8) := Nat.testBit_two_pow_sub_one 8 (i - n)
  have h2 : Nat.testBit (x / 2 ^ n % 256) (i - n) = (decide (i - n < 8) && Nat.testBit (x / 2 ^ n) (i - n)) := Nat.testBit_mod_two_pow (x / 2 ^ n) 8 (i - n)
  rw [h1, h2, Nat.testBit_div_two_pow]
  by_cases h : n ≤ i
  · rw [show i - n + n = i by omega]
    simp [h, Bool.and_comm]
  · simp [h]
theorem and_mask (x : Int) (n M : Nat) (hM : M = 255 * 2 ^ n) (h0 : 0 ≤ x) (h1 : x < 18446744073709551616) (hM1 : M < 18446744073709551616) : bits .and .u64 x M = (x / (2 ^ n : Nat) % 256) * (2 ^ n : Nat) := by
  obtain ⟨y, rfl⟩ := Int.eq_ofNat_of_zero_le h0
  rw [u64_and y M (by omega) (by omega) (by omega) (by omega)]
  subst hM
  have := nat_and_mask y n
  simp only [Int.toNat_natCast]
  rw [this]
  simp
set_option maxHeartbeats 8000000 in
theorem ncRowL (k : Int) (h15 : (k == 15) = false) (h16 : (k == 16) = false) (W : Nat) (hW : W ≤ 32) (r : R4) (hr : Ok4 r) (w : World)
    (hwd : ∀ w1, Upd [] w w1 → Calls Tryz.prog 27 #[.int .i64 k] w1 fun e w' => e = .returned (.int .i64 W) ∧ w' = w1) :
    Calls Tryz.prog 43 #[.int .i64 k, r.agg] w fun e w' => e = .returned (mrow r W).agg ∧ Upd [] w w' := by
  obtain ⟨⟨ha0, ha1⟩, ⟨hb0, hb1⟩, ⟨hc0, hc1⟩, hd0, hd1⟩ := hr
  obtain ⟨k1, u1, s1⟩ := alloc_facts w (Obj.cells #[.int .u64 r.a, .int .u64 r.b, .int .u64 r.c, .int .u64 r.d] 71)
  obtain ⟨k2, u2, s2⟩ := alloc_facts (w.alloc (Obj.cells #[.int .u64 r.a, .int .u64 r.b, .int .u64 r.c, .int .u64 r.d] 71)) (Obj.cells #[.int .u64 0, .int .u64 0, .int .u64 0, .int .u64 0] 71)
  obtain ⟨k3, u3, s3⟩ := alloc_facts ((w.alloc (Obj.cells #[.int .u64 r.a, .int .u64 r.b, .int .u64 r.c, .int .u64 r.d] 71)).alloc (Obj.cells #[.int .u64 0, .int .u64 0, .int .u64 0, .int .u64 0] 71)) (Obj.cells #[.int .u64 0, .int .u64 0, .int .u64 0, .int .u64 0] 71)
  have b0 := u3.at (u2.at k1 (by simp)) (by simp)
  have b1 := u3.at k2 (by simp)
  have hU0 := (u1.trans u2 (fun _ h => .inl h)).trans u3 (fun _ h => .inl h)
  rw [s1] at s2 b1
  rw [s2] at k3 s3
  have hwd3 := hwd _ hU0
  simp only [R4.agg]
  go_enter Tryz.func43, Tryz.ntmps43
  go_wp2_with (go_at_call 27; apply stopHere)
  show Calls _ _ _ _ _
  generalize ((w.alloc (Obj.cells #[.int .u64 r.a, .int .u64 r.b, .int .u64 r.c, .int .u64 r.d] 71)).alloc (Obj.cells #[.int .u64 0, .int .u64 0, .int .u64 0, .int .u64 0] 71)).alloc (Obj.cells #[.int .u64 0, .int .u64 0, .int .u64 0, .int .u64 0] 71) = W3 at *
  clear u1 u2 u3 k1 k2 s1 s2
  refine hwd3.mono ?_
  rintro e w4 ⟨rfl, rfl⟩
  dsimp only
  go_wp2
  go_loopw [26] (fun i wr => ∃ j : Nat, j ≤ W ∧ i = .int .i64 j ∧ wr.heap[w.heap.size]? = some (.cells #[.int .u64 r.a, .int .u64 r.b, .int .u64 r.c, .int .u64 r.d] 71 (0, 0)) ∧ wr.heap[w.heap.size + 1]? = some (.cells #[.int .u64 0, .int .u64 0, .int .u64 0, .int .u64 0] 71 (0, 0)) ∧ wr.heap[w.heap.size + 1 + 1]? = some (.cells (mrow r j).cells.toArray 71 (0, 0)) ∧ Upd [] w wr)
    (fun i _ => W - (intOf i).toNat)
  case atStart => exact ⟨0, Nat.zero_le _, rfl, b0, b1, k3, hU0⟩
  case round =>
    obtain ⟨j, hj, rfl, h0, h1, h2, hU⟩ := hrel
    have hl2 := lt_of_block h2
    by_cases hlt : j < W
    · have hk0 : ((j : Int) < W) := by omega
      have hj32 : j < 32 := by omega
      have f2 : ∀ i, wr.frozen? ⟨w.heap.size + 1 + 1, i, none⟩ = false := fun i => by simp [World.frozen?, h2]
      clear hwd hwd3 b0 b1 k3
      match j, hj32 with
      | 0, _ =>
        have h2' : wr.heap[w.heap.size + 1 + 1]? = some (.cells #[.int .u64 (mw r.a 0), .int .u64 (mw r.b 0), .int .u64 (mw r.c 0), .int .u64 (mw r.d 0)] 71 (0, 0)) := h2
        obtain ⟨X, hX⟩ : ∃ X, X = r.a := ⟨_, rfl⟩
        obtain ⟨L, hL⟩ : ∃ L, L = mw r.a 0 := ⟨_, rfl⟩
        obtain ⟨R, hR⟩ : ∃ R, R = mw r.a 1 := ⟨_, rfl⟩
        have c0 : wr.cell? ⟨w.heap.size + 1 + 1, 0, none⟩ = some (.int .u64 L) := by rw [hL]; exact (cellAt h2' 0).trans rfl
        have x0 : wr.cell? ⟨w.heap.size, 0, none⟩ = some (.int .u64 X) := by rw [hX]; exact (cellAt h0 0).trans rfl
        have f0 := f2 0
        have e1 : IntKind.u64.wrap 255 = 255 := by rw [IntKind.wrap_u64]; rfl
        have hand : bits .and .u64 X 255 = X % 256 := by
          rw [hX]
          have := and_mask r.a 0 255 (by decide) ha0 ha1 (by decide)
          simpa using this
        have hor : bits .or .u64 L (X % 256) = R := by
          rw [hL, hR, hX]
          exact or_zero64 _ (by omega)
        have hn := heap_setCell_same wr (w.heap.size + 1 + 1) 0 _ _ (.int .u64 R) h2'
        rw [hR] at hn
        have hw0 : IntKind.i64.wrap 0 = 0 := IntWalk.i64_in _ (by omega)
        have hw1 : IntKind.i64.wrap 0 = 0 := IntWalk.i64_in _ (by omega)
        have hw2 : IntKind.i64.wrap 0 = 0 := IntWalk.i64_in _ (by omega)
        have HN := Lib.hid hn
        have HR := Lib.hid hR
        clear hL hn hR hX h2 h2' f2
        go_wp2
        go_still_tail 15, (by kernel_rfl)
        change wpList _ _ _ _ _ wr.drew
        have c1 : wr.drew.cell? ⟨w.heap.size + 1 + 1, 0, none⟩ = some (.int .u64 L) := c0
        have f1 : wr.drew.frozen? ⟨w.heap.size + 1 + 1, 0, none⟩ = false := f0
        go_wp2
        have hsx : ∀ v : Value, Upd [] w (wr.setCell ⟨w.heap.size + 1 + 1, 0, none⟩ v).drew := fun v => (hU.setCell v (.inr (by show w.heap.size ≤ w.heap.size + 1 + 1; omega))).drew
        go_roundw
        case rel =>
          refine ⟨1, by omega, by go_num, ?_, ?_, ?_, hsx _⟩
          · show (wr.setCell _ _).heap[_]? = _
            rw [heap_setCell_other _ _ _ _ (by show ¬ w.heap.size = w.heap.size + 1 + 1; omega)]; exact h0
          · show (wr.setCell _ _).heap[_]? = _
            rw [heap_setCell_other _ _ _ _ (by show ¬ w.heap.size + 1 = w.heap.size + 1 + 1; omega)]; exact h1
          · show (wr.setCell _ _).heap[_]? = _
            rw [HR.out]; exact HN.out
        case measure => simp [intOf]; omega
      | 1, _ =>
        have h2' : wr.heap[w.heap.size + 1 + 1]? = some (.cells #[.int .u64 (mw r.a 1), .int .u64 (mw r.b 0), .int .u64 (mw r.c 0), .int .u64 (mw r.d 0)] 71 (0, 0)) := h2
        obtain ⟨X, hX⟩ : ∃ X, X = r.a := ⟨_, rfl⟩
        obtain ⟨L, hL⟩ : ∃ L, L = mw r.a 1 := ⟨_, rfl⟩
        obtain ⟨R, hR⟩ : ∃ R, R = mw r.a 2 := ⟨_, rfl⟩
        have c0 : wr.cell? ⟨w.heap.size + 1 + 1, 0, none⟩ = some (.int .u64 L) := by rw [hL]; exact (cellAt h2' 0).trans rfl
        have x0 : wr.cell? ⟨w.heap.size, 0, none⟩ = some (.int .u64 X) := by rw [hX]; exact (cellAt h0 0).trans rfl
        have f0 := f2 0
        have e1 : IntKind.u64.wrap 65280 = 65280 := by rw [IntKind.wrap_u64]; rfl
        have hand : bits .and .u64 X 65280 = X / 256 % 256 * 256 := by
          rw [hX]
          have := and_mask r.a 8 65280 (by decide) ha0 ha1 (by decide)
          simpa using this
        have hor : bits .or .u64 L (X / 256 % 256 * 256) = R := by
          rw [hL, hR, hX]
          simp (disch := omega) only [u64_or8, mw]
          omega
        have hn := heap_setCell_same wr (w.heap.size + 1 + 1) 0 _ _ (.int .u64 R) h2'
        rw [hR] at hn
        have hw0 : IntKind.i64.wrap 0 = 0 := IntWalk.i64_in _ (by omega)
        have hw1 : IntKind.i64.wrap 1 = 1 := IntWalk.i64_in _ (by omega)
        have hw2 : IntKind.i64.wrap 8 = 8 := IntWalk.i64_in _ (by omega)
        have HN := Lib.hid hn
        have HR := Lib.hid hR
        clear hL hn hR hX h2 h2' f2
        go_wp2
        go_still_tail 15, (by kernel_rfl)
        change wpList _ _ _ _ _ wr.drew
        have c1 : wr.drew.cell? ⟨w.heap.size + 1 + 1, 0, none⟩ = some (.int .u64 L) := c0
        have f1 : wr.drew.frozen? ⟨w.heap.size + 1 + 1, 0, none⟩ = false := f0
        go_wp2
        have hsx : ∀ v : Value, Upd [] w (wr.setCell ⟨w.heap.size + 1 + 1, 0, none⟩ v).drew := fun v => (hU.setCell v (.inr (by show w.heap.size ≤ w.heap.size + 1 + 1; omega))).drew
        go_roundw
        case rel =>
          refine ⟨2, by omega, by go_num, ?_, ?_, ?_, hsx _⟩
          · show (wr.setCell _ _).heap[_]? = _
            rw [heap_setCell_other _ _ _ _ (by show ¬ w.heap.size = w.heap.size + 1 + 1; omega)]; exact h0
          · show (wr.setCell _ _).heap[_]? = _
            rw [heap_setCell_other _ _ _ _ (by show ¬ w.heap.size + 1 = w.heap.size + 1 + 1; omega)]; exact h1
          · show (wr.setCell _ _).heap[_]? = _
            rw [HR.out]; exact HN.out
        case measure => simp [intOf]; omega
      | 2, _ =>
        have h2' : wr.heap[w.heap.size + 1 + 1]? = some (.cells #[.int .u64 (mw r.a 2), .int .u64 (mw r.b 0), .int .u64 (mw r.c 0), .int .u64 (mw r.d 0)] 71 (0, 0)) := h2
        obtain ⟨X, hX⟩ : ∃ X, X = r.a := ⟨_, rfl⟩
        obtain ⟨L, hL⟩ : ∃ L, L = mw r.a 2 := ⟨_, rfl⟩
        obtain ⟨R, hR⟩ : ∃ R, R = mw r.a 3 := ⟨_, rfl⟩
        have c0 : wr.cell? ⟨w.heap.size + 1 + 1, 0, none⟩ = some (.int .u64 L) := by rw [hL]; exact (cellAt h2' 0).trans rfl
        have x0 : wr.cell? ⟨w.heap.size, 0, none⟩ = some (.int .u64 X) := by rw [hX]; exact (cellAt h0 0).trans rfl
        have f0 := f2 0
        have e1 : IntKind.u64.wrap 16711680 = 16711680 := by rw [IntKind.wrap_u64]; rfl
        have hand : bits .and .u64 X 16711680 = X / 65536 % 256 * 65536 := by
          rw [hX]
          have := and_mask r.a 16 16711680 (by decide) ha0 ha1 (by decide)
          simpa using this
        have hor : bits .or .u64 L (X / 65536 % 256 * 65536) = R := by
          rw [hL, hR, hX]
          simp (disch := omega) only [u64_or16, mw]
          omega
        have hn := heap_setCell_same wr (w.heap.size + 1 + 1) 0 _ _ (.int .u64 R) h2'
        rw [hR] at hn
        have hw0 : IntKind.i64.wrap 0 = 0 := IntWalk.i64_in _ (by omega)
        have hw1 : IntKind.i64.wrap 2 = 2 := IntWalk.i64_in _ (by omega)
        have hw2 : IntKind.i64.wrap 16 = 16 := IntWalk.i64_in _ (by omega)
        have HN := Lib.hid hn
        have HR := Lib.hid hR
        clear hL hn hR hX h2 h2' f2
        go_wp2
        go_still_tail 15, (by kernel_rfl)
        change wpList _ _ _ _ _ wr.drew
        have c1 : wr.drew.cell? ⟨w.heap.size + 1 + 1, 0, none⟩ = some (.int .u64 L) := c0
        have f1 : wr.drew.frozen? ⟨w.heap.size + 1 + 1, 0, none⟩ = false := f0
        go_wp2
        have hsx : ∀ v : Value, Upd [] w (wr.setCell ⟨w.heap.size + 1 + 1, 0, none⟩ v).drew := fun v => (hU.setCell v (.inr (by show w.heap.size ≤ w.heap.size + 1 + 1; omega))).drew
        go_roundw
        case rel =>
          refine ⟨3, by omega, by go_num, ?_, ?_, ?_, hsx _⟩
          · show (wr.setCell _ _).heap[_]? = _
            rw [heap_setCell_other _ _ _ _ (by show ¬ w.heap.size = w.heap.size + 1 + 1; omega)]; exact h0
          · show (wr.setCell _ _).heap[_]? = _
            rw [heap_setCell_other _ _ _ _ (by show ¬ w.heap.size + 1 = w.heap.size + 1 + 1; omega)]; exact h1
          · show (wr.setCell _ _).heap[_]? = _
            rw [HR.out]; exact HN.out
        case measure => simp [intOf]; omega
      | 3, _ =>
        have h2' : wr.heap[w.heap.size + 1 + 1]? = some (.cells #[.int .u64 (mw r.a 3), .int .u64 (mw r.b 0), .int .u64 (mw r.c 0), .int .u64 (mw r.d 0)] 71 (0, 0)) := h2
        obtain ⟨X, hX⟩ : ∃ X, X = r.a := ⟨_, rfl⟩
        obtain ⟨L, hL⟩ : ∃ L, L = mw r.a 3 := ⟨_, rfl⟩
        obtain ⟨R, hR⟩ : ∃ R, R = mw r.a 4 := ⟨_, rfl⟩
        have c0 : wr.cell? ⟨w.heap.size + 1 + 1, 0, none⟩ = some (.int .u64 L) := by rw [hL]; exact (cellAt h2' 0).trans rfl
        have x0 : wr.cell? ⟨w.heap.size, 0, none⟩ = some (.int .u64 X) := by rw [hX]; exact (cellAt h0 0).trans rfl
        have f0 := f2 0
        have e1 : IntKind.u64.wrap 4278190080 = 4278190080 := by rw [IntKind.wrap_u64]; rfl
        have hand : bits .and .u64 X 4278190080 = X / 16777216 % 256 * 16777216 := by
          rw [hX]
          have := and_mask r.a 24 4278190080 (by decide) ha0 ha1 (by decide)
          simpa using this
        have hor : bits .or .u64 L (X / 16777216 % 256 * 16777216) = R := by
          rw [hL, hR, hX]
          simp (disch := omega) only [u64_or24, mw]
          omega
        have hn := heap_setCell_same wr (w.heap.size + 1 + 1) 0 _ _ (.int .u64 R) h2'
        rw [hR] at hn
        have hw0 : IntKind.i64.wrap 0 = 0 := IntWalk.i64_in _ (by omega)
        have hw1 : IntKind.i64.wrap 3 = 3 := IntWalk.i64_in _ (by omega)
        have hw2 : IntKind.i64.wrap 24 = 24 := IntWalk.i64_in _ (by omega)
        have HN := Lib.hid hn
        have HR := Lib.hid hR
        clear hL hn hR hX h2 h2' f2
        go_wp2
        go_still_tail 15, (by kernel_rfl)
        change wpList _ _ _ _ _ wr.drew
        have c1 : wr.drew.cell? ⟨w.heap.size + 1 + 1, 0, none⟩ = some (.int .u64 L) := c0
        have f1 : wr.drew.frozen? ⟨w.heap.size + 1 + 1, 0, none⟩ = false := f0
        go_wp2
        have hsx : ∀ v : Value, Upd [] w (wr.setCell ⟨w.heap.size + 1 + 1, 0, none⟩ v).drew := fun v => (hU.setCell v (.inr (by show w.heap.size ≤ w.heap.size + 1 + 1; omega))).drew
        go_roundw
        case rel =>
          refine ⟨4, by omega, by go_num, ?_, ?_, ?_, hsx _⟩
          · show (wr.setCell _ _).heap[_]? = _
            rw [heap_setCell_other _ _ _ _ (by show ¬ w.heap.size = w.heap.size + 1 + 1; omega)]; exact h0
          · show (wr.setCell _ _).heap[_]? = _
            rw [heap_setCell_other _ _ _ _ (by show ¬ w.heap.size + 1 = w.heap.size + 1 + 1; omega)]; exact h1
          · show (wr.setCell _ _).heap[_]? = _
            rw [HR.out]; exact HN.out
        case measure => simp [intOf]; omega
      | 4, _ =>
        have h2' : wr.heap[w.heap.size + 1 + 1]? = some (.cells #[.int .u64 (mw r.a 4), .int .u64 (mw r.b 0), .int .u64 (mw r.c 0), .int .u64 (mw r.d 0)] 71 (0, 0)) := h2
        obtain ⟨X, hX⟩ : ∃ X, X = r.a := ⟨_, rfl⟩
        obtain ⟨L, hL⟩ : ∃ L, L = mw r.a 4 := ⟨_, rfl⟩
        obtain ⟨R, hR⟩ : ∃ R, R = mw r.a 5 := ⟨_, rfl⟩
        have c0 : wr.cell? ⟨w.heap.size + 1 + 1, 0, none⟩ = some (.int .u64 L) := by rw [hL]; exact (cellAt h2' 0).trans rfl
        have x0 : wr.cell? ⟨w.heap.size, 0, none⟩ = some (.int .u64 X) := by rw [hX]; exact (cellAt h0 0).trans rfl
        have f0 := f2 0
        have e1 : IntKind.u64.wrap 1095216660480 = 1095216660480 := by rw [IntKind.wrap_u64]; rfl
        have hand : bits .and .u64 X 1095216660480 = X / 4294967296 % 256 * 4294967296 := by
          rw [hX]
          have := and_mask r.a 32 1095216660480 (by decide) ha0 ha1 (by decide)
          simpa using this
        have hor : bits .or .u64 L (X / 4294967296 % 256 * 4294967296) = R := by
          rw [hL, hR, hX]
          simp (disch := omega) only [u64_or32, mw]
          omega
        have hn := heap_setCell_same wr (w.heap.size + 1 + 1) 0 _ _ (.int .u64 R) h2'
        rw [hR] at hn
        have hw0 : IntKind.i64.wrap 0 = 0 := IntWalk.i64_in _ (by omega)
        have hw1 : IntKind.i64.wrap 4 = 4 := IntWalk.i64_in _ (by omega)
        have hw2 : IntKind.i64.wrap 32 = 32 := IntWalk.i64_in _ (by omega)
        have HN := Lib.hid hn
        have HR := Lib.hid hR
        clear hL hn hR hX h2 h2' f2
        go_wp2
        go_still_tail 15, (by kernel_rfl)
        change wpList _ _ _ _ _ wr.drew
        have c1 : wr.drew.cell? ⟨w.heap.size + 1 + 1, 0, none⟩ = some (.int .u64 L) := c0
        have f1 : wr.drew.frozen? ⟨w.heap.size + 1 + 1, 0, none⟩ = false := f0
        go_wp2
        have hsx : ∀ v : Value, Upd [] w (wr.setCell ⟨w.heap.size + 1 + 1, 0, none⟩ v).drew := fun v => (hU.setCell v (.inr (by show w.heap.size ≤ w.heap.size + 1 + 1; omega))).drew
        go_roundw
        case rel =>
          refine ⟨5, by omega, by go_num, ?_, ?_, ?_, hsx _⟩
          · show (wr.setCell _ _).heap[_]? = _
            rw [heap_setCell_other _ _ _ _ (by show ¬ w.heap.size = w.heap.size + 1 + 1; omega)]; exact h0
          · show (wr.setCell _ _).heap[_]? = _
            rw [heap_setCell_other _ _ _ _ (by show ¬ w.heap.size + 1 = w.heap.size + 1 + 1; omega)]; exact h1
          · show (wr.setCell _ _).heap[_]? = _
            rw [HR.out]; exact HN.out
        case measure => simp [intOf]; omega
      | 5, _ =>
        have h2' : wr.heap[w.heap.size + 1 + 1]? = some (.cells #[.int .u64 (mw r.a 5), .int .u64 (mw r.b 0), .int .u64 (mw r.c 0), .int .u64 (mw r.d 0)] 71 (0, 0)) := h2
        obtain ⟨X, hX⟩ : ∃ X, X = r.a := ⟨_, rfl⟩
        obtain ⟨L, hL⟩ : ∃ L, L = mw r.a 5 := ⟨_, rfl⟩
        obtain ⟨R, hR⟩ : ∃ R, R = mw r.a 6 := ⟨_, rfl⟩
        have c0 : wr.cell? ⟨w.heap.size + 1 + 1, 0, none⟩ = some (.int .u64 L) := by rw [hL]; exact (cellAt h2' 0).trans rfl
        have x0 : wr.cell? ⟨w.heap.size, 0, none⟩ = some (.int .u64 X) := by rw [hX]; exact (cellAt h0 0).trans rfl
        have f0 := f2 0
        have e1 : IntKind.u64.wrap 280375465082880 = 280375465082880 := by rw [IntKind.wrap_u64]; rfl
        have hand : bits .and .u64 X 280375465082880 = X / 1099511627776 % 256 * 1099511627776 := by
          rw [hX]
          have := and_mask r.a 40 280375465082880 (by decide) ha0 ha1 (by decide)
          simpa using this
        have hor : bits .or .u64 L (X / 1099511627776 % 256 * 1099511627776) = R := by
          rw [hL, hR, hX]
          simp (disch := omega) only [u64_or40, mw]
          omega
        have hn := heap_setCell_same wr (w.heap.size + 1 + 1) 0 _ _ (.int .u64 R) h2'
        rw [hR] at hn
        have hw0 : IntKind.i64.wrap 0 = 0 := IntWalk.i64_in _ (by omega)
        have hw1 : IntKind.i64.wrap 5 = 5 := IntWalk.i64_in _ (by omega)
        have hw2 : IntKind.i64.wrap 40 = 40 := IntWalk.i64_in _ (by omega)
        have HN := Lib.hid hn
        have HR := Lib.hid hR
        clear hL hn hR hX h2 h2' f2
        go_wp2
        go_still_tail 15, (by kernel_rfl)
        change wpList _ _ _ _ _ wr.drew
        have c1 : wr.drew.cell? ⟨w.heap.size + 1 + 1, 0, none⟩ = some (.int .u64 L) := c0
        have f1 : wr.drew.frozen? ⟨w.heap.size + 1 + 1, 0, none⟩ = false := f0
        go_wp2
        have hsx : ∀ v : Value, Upd [] w (wr.setCell ⟨w.heap.size + 1 + 1, 0, none⟩ v).drew := fun v => (hU.setCell v (.inr (by show w.heap.size ≤ w.heap.size + 1 + 1; omega))).drew
        go_roundw
        case rel =>
          refine ⟨6, by omega, by go_num, ?_, ?_, ?_, hsx _⟩
          · show (wr.setCell _ _).heap[_]? = _
            rw [heap_setCell_other _ _ _ _ (by show ¬ w.heap.size = w.heap.size + 1 + 1; omega)]; exact h0
          · show (wr.setCell _ _).heap[_]? = _
            rw [heap_setCell_other _ _ _ _ (by show ¬ w.heap.size + 1 = w.heap.size + 1 + 1; omega)]; exact h1
          · show (wr.setCell _ _).heap[_]? = _
            rw [HR.out]; exact HN.out
        case measure => simp [intOf]; omega
      | 6, _ =>
        have h2' : wr.heap[w.heap.size + 1 + 1]? = some (.cells #[.int .u64 (mw r.a 6), .int .u64 (mw r.b 0), .int .u64 (mw r.c 0), .int .u64 (mw r.d 0)] 71 (0, 0)) := h2
        obtain ⟨X, hX⟩ : ∃ X, X = r.a := ⟨_, rfl⟩
        obtain ⟨L, hL⟩ : ∃ L, L = mw r.a 6 := ⟨_, rfl⟩
        obtain ⟨R, hR⟩ : ∃ R, R = mw r.a 7 := ⟨_, rfl⟩
        have c0 : wr.cell? ⟨w.heap.size + 1 + 1, 0, none⟩ = some (.int .u64 L) := by rw [hL]; exact (cellAt h2' 0).trans rfl
        have x0 : wr.cell? ⟨w.heap.size, 0, none⟩ = some (.int .u64 X) := by rw [hX]; exact (cellAt h0 0).trans rfl
        have f0 := f2 0
        have e1 : IntKind.u64.wrap 71776119061217280 = 71776119061217280 := by rw [IntKind.wrap_u64]; rfl
        have hand : bits .and .u64 X 71776119061217280 = X / 281474976710656 % 256 * 281474976710656 := by
          rw [hX]
          have := and_mask r.a 48 71776119061217280 (by decide) ha0 ha1 (by decide)
          simpa using this
        have hor : bits .or .u64 L (X / 281474976710656 % 256 * 281474976710656) = R := by
          rw [hL, hR, hX]
          simp (disch := omega) only [u64_or48, mw]
          omega
        have hn := heap_setCell_same wr (w.heap.size + 1 + 1) 0 _ _ (.int .u64 R) h2'
        rw [hR] at hn
        have hw0 : IntKind.i64.wrap 0 = 0 := IntWalk.i64_in _ (by omega)
        have hw1 : IntKind.i64.wrap 6 = 6 := IntWalk.i64_in _ (by omega)
        have hw2 : IntKind.i64.wrap 48 = 48 := IntWalk.i64_in _ (by omega)
        have HN := Lib.hid hn
        have HR := Lib.hid hR
        clear hL hn hR hX h2 h2' f2
        go_wp2
        go_still_tail 15, (by kernel_rfl)
        change wpList _ _ _ _ _ wr.drew
        have c1 : wr.drew.cell? ⟨w.heap.size + 1 + 1, 0, none⟩ = some (.int .u64 L) := c0
        have f1 : wr.drew.frozen? ⟨w.heap.size + 1 + 1, 0, none⟩ = false := f0
        go_wp2
        have hsx : ∀ v : Value, Upd [] w (wr.setCell ⟨w.heap.size + 1 + 1, 0, none⟩ v).drew := fun v => (hU.setCell v (.inr (by show w.heap.size ≤ w.heap.size + 1 + 1; omega))).drew
        go_roundw
        case rel =>
          refine ⟨7, by omega, by go_num, ?_, ?_, ?_, hsx _⟩
          · show (wr.setCell _ _).heap[_]? = _
            rw [heap_setCell_other _ _ _ _ (by show ¬ w.heap.size = w.heap.size + 1 + 1; omega)]; exact h0
          · show (wr.setCell _ _).heap[_]? = _
            rw [heap_setCell_other _ _ _ _ (by show ¬ w.heap.size + 1 = w.heap.size + 1 + 1; omega)]; exact h1
          · show (wr.setCell _ _).heap[_]? = _
            rw [HR.out]; exact HN.out
        case measure => simp [intOf]; omega
      | 7, _ =>
        have h2' : wr.heap[w.heap.size + 1 + 1]? = some (.cells #[.int .u64 (mw r.a 7), .int .u64 (mw r.b 0), .int .u64 (mw r.c 0), .int .u64 (mw r.d 0)] 71 (0, 0)) := h2
        obtain ⟨X, hX⟩ : ∃ X, X = r.a := ⟨_, rfl⟩
        obtain ⟨L, hL⟩ : ∃ L, L = mw r.a 7 := ⟨_, rfl⟩
        obtain ⟨R, hR⟩ : ∃ R, R = mw r.a 8 := ⟨_, rfl⟩
        have c0 : wr.cell? ⟨w.heap.size + 1 + 1, 0, none⟩ = some (.int .u64 L) := by rw [hL]; exact (cellAt h2' 0).trans rfl
        have x0 : wr.cell? ⟨w.heap.size, 0, none⟩ = some (.int .u64 X) := by rw [hX]; exact (cellAt h0 0).trans rfl
        have f0 := f2 0
        have e1 : IntKind.u64.wrap 18374686479671623680 = 18374686479671623680 := by rw [IntKind.wrap_u64]; rfl
        have hand : bits .and .u64 X 18374686479671623680 = X / 72057594037927936 % 256 * 72057594037927936 := by
          rw [hX]
          have := and_mask r.a 56 18374686479671623680 (by decide) ha0 ha1 (by decide)
          simpa using this
        have hor : bits .or .u64 L (X / 72057594037927936 % 256 * 72057594037927936) = R := by
          rw [hL, hR, hX]
          simp (disch := omega) only [u64_or56, mw]
          omega
        have hn := heap_setCell_same wr (w.heap.size + 1 + 1) 0 _ _ (.int .u64 R) h2'
        rw [hR] at hn
        have hw0 : IntKind.i64.wrap 0 = 0 := IntWalk.i64_in _ (by omega)
        have hw1 : IntKind.i64.wrap 7 = 7 := IntWalk.i64_in _ (by omega)
        have hw2 : IntKind.i64.wrap 56 = 56 := IntWalk.i64_in _ (by omega)
        have HN := Lib.hid hn
        have HR := Lib.hid hR
        clear hL hn hR hX h2 h2' f2
        go_wp2
        go_still_tail 15, (by kernel_rfl)
        change wpList _ _ _ _ _ wr.drew
        have c1 : wr.drew.cell? ⟨w.heap.size + 1 + 1, 0, none⟩ = some (.int .u64 L) := c0
        have f1 : wr.drew.frozen? ⟨w.heap.size + 1 + 1, 0, none⟩ = false := f0
        go_wp2
        have hsx : ∀ v : Value, Upd [] w (wr.setCell ⟨w.heap.size + 1 + 1, 0, none⟩ v).drew := fun v => (hU.setCell v (.inr (by show w.heap.size ≤ w.heap.size + 1 + 1; omega))).drew
        go_roundw
        case rel =>
          refine ⟨8, by omega, by go_num, ?_, ?_, ?_, hsx _⟩
          · show (wr.setCell _ _).heap[_]? = _
            rw [heap_setCell_other _ _ _ _ (by show ¬ w.heap.size = w.heap.size + 1 + 1; omega)]; exact h0
          · show (wr.setCell _ _).heap[_]? = _
            rw [heap_setCell_other _ _ _ _ (by show ¬ w.heap.size + 1 = w.heap.size + 1 + 1; omega)]; exact h1
          · show (wr.setCell _ _).heap[_]? = _
            rw [HR.out]; exact HN.out
        case measure => simp [intOf]; omega
      | 8, _ =>
        have h2' : wr.heap[w.heap.size + 1 + 1]? = some (.cells #[.int .u64 (mw r.a 8), .int .u64 (mw r.b 0), .int .u64 (mw r.c 0), .int .u64 (mw r.d 0)] 71 (0, 0)) := h2
        obtain ⟨X, hX⟩ : ∃ X, X = r.b := ⟨_, rfl⟩
        obtain ⟨L, hL⟩ : ∃ L, L = mw r.b 0 := ⟨_, rfl⟩
        obtain ⟨R, hR⟩ : ∃ R, R = mw r.b 1 := ⟨_, rfl⟩
        have c0 : wr.cell? ⟨w.heap.size + 1 + 1, 1, none⟩ = some (.int .u64 L) := by rw [hL]; exact (cellAt h2' 1).trans rfl
        have x0 : wr.cell? ⟨w.heap.size, 1, none⟩ = some (.int .u64 X) := by rw [hX]; exact (cellAt h0 1).trans rfl
        have f0 := f2 1
        have e1 : IntKind.u64.wrap 255 = 255 := by rw [IntKind.wrap_u64]; rfl
        have hand : bits .and .u64 X 255 = X % 256 := by
          rw [hX]
          have := and_mask r.b 0 255 (by decide) hb0 hb1 (by decide)
          simpa using this
        have hor : bits .or .u64 L (X % 256) = R := by
          rw [hL, hR, hX]
          exact or_zero64 _ (by omega)
        have hn := heap_setCell_same wr (w.heap.size + 1 + 1) 1 _ _ (.int .u64 R) h2'
        rw [hR] at hn
        have hw0 : IntKind.i64.wrap 1 = 1 := IntWalk.i64_in _ (by omega)
        have hw1 : IntKind.i64.wrap 0 = 0 := IntWalk.i64_in _ (by omega)
        have hw2 : IntKind.i64.wrap 0 = 0 := IntWalk.i64_in _ (by omega)
        have HN := Lib.hid hn
        have HR := Lib.hid hR
        clear hL hn hR hX h2 h2' f2
        go_wp2
        go_still_tail 15, (by kernel_rfl)
        change wpList _ _ _ _ _ wr.drew
        have c1 : wr.drew.cell? ⟨w.heap.size + 1 + 1, 1, none⟩ = some (.int .u64 L) := c0
        have f1 : wr.drew.frozen? ⟨w.heap.size + 1 + 1, 1, none⟩ = false := f0
        go_wp2
        have hsx : ∀ v : Value, Upd [] w (wr.setCell ⟨w.heap.size + 1 + 1, 1, none⟩ v).drew := fun v => (hU.setCell v (.inr (by show w.heap.size ≤ w.heap.size + 1 + 1; omega))).drew
        go_roundw
        case rel =>
          refine ⟨9, by omega, by go_num, ?_, ?_, ?_, hsx _⟩
          · show (wr.setCell _ _).heap[_]? = _
            rw [heap_setCell_other _ _ _ _ (by show ¬ w.heap.size = w.heap.size + 1 + 1; omega)]; exact h0
          · show (wr.setCell _ _).heap[_]? = _
            rw [heap_setCell_other _ _ _ _ (by show ¬ w.heap.size + 1 = w.heap.size + 1 + 1; omega)]; exact h1
          · show (wr.setCell _ _).heap[_]? = _
            rw [HR.out]; exact HN.out
        case measure => simp [intOf]; omega
      | 9, _ =>
        have h2' : wr.heap[w.heap.size + 1 + 1]? = some (.cells #[.int .u64 (mw r.a 8), .int .u64 (mw r.b 1), .int .u64 (mw r.c 0), .int .u64 (mw r.d 0)] 71 (0, 0)) := h2
        obtain ⟨X, hX⟩ : ∃ X, X = r.b := ⟨_, rfl⟩
        obtain ⟨L, hL⟩ : ∃ L, L = mw r.b 1 := ⟨_, rfl⟩
        obtain ⟨R, hR⟩ : ∃ R, R = mw r.b 2 := ⟨_, rfl⟩
        have c0 : wr.cell? ⟨w.heap.size + 1 + 1, 1, none⟩ = some (.int .u64 L) := by rw [hL]; exact (cellAt h2' 1).trans rfl
        have x0 : wr.cell? ⟨w.heap.size, 1, none⟩ = some (.int .u64 X) := by rw [hX]; exact (cellAt h0 1).trans rfl
        have f0 := f2 1
        have e1 : IntKind.u64.wrap 65280 = 65280 := by rw [IntKind.wrap_u64]; rfl
        have hand : bits .and .u64 X 65280 = X / 256 % 256 * 256 := by
          rw [hX]
          have := and_mask r.b 8 65280 (by decide) hb0 hb1 (by decide)
          simpa using this
        have hor : bits .or .u64 L (X / 256 % 256 * 256) = R := by
          rw [hL, hR, hX]
          simp (disch := omega) only [u64_or8, mw]
          omega
        have hn := heap_setCell_same wr (w.heap.size + 1 + 1) 1 _ _ (.int .u64 R) h2'
        rw [hR] at hn
        have hw0 : IntKind.i64.wrap 1 = 1 := IntWalk.i64_in _ (by omega)
        have hw1 : IntKind.i64.wrap 1 = 1 := IntWalk.i64_in _ (by omega)
        have hw2 : IntKind.i64.wrap 8 = 8 := IntWalk.i64_in _ (by omega)
        have HN := Lib.hid hn
        have HR := Lib.hid hR
        clear hL hn hR hX h2 h2' f2
        go_wp2
        go_still_tail 15, (by kernel_rfl)
        change wpList _ _ _ _ _ wr.drew
        have c1 : wr.drew.cell? ⟨w.heap.size + 1 + 1, 1, none⟩ = some (.int .u64 L) := c0
        have f1 : wr.drew.frozen? ⟨w.heap.size + 1 + 1, 1, none⟩ = false := f0
        go_wp2
        have hsx : ∀ v : Value, Upd [] w (wr.setCell ⟨w.heap.size + 1 + 1, 1, none⟩ v).drew := fun v => (hU.setCell v (.inr (by show w.heap.size ≤ w.heap.size + 1 + 1; omega))).drew
        go_roundw
        case rel =>
          refine ⟨10, by omega, by go_num, ?_, ?_, ?_, hsx _⟩
          · show (wr.setCell _ _).heap[_]? = _
            rw [heap_setCell_other _ _ _ _ (by show ¬ w.heap.size = w.heap.size + 1 + 1; omega)]; exact h0
          · show (wr.setCell _ _).heap[_]? = _
            rw [heap_setCell_other _ _ _ _ (by show ¬ w.heap.size + 1 = w.heap.size + 1 + 1; omega)]; exact h1
          · show (wr.setCell _ _).heap[_]? = _
            rw [HR.out]; exact HN.out
        case measure => simp [intOf]; omega
      | 10, _ =>
        have h2' : wr.heap[w.heap.size + 1 + 1]? = some (.cells #[.int .u64 (mw r.a 8), .int .u64 (mw r.b 2), .int .u64 (mw r.c 0), .int .u64 (mw r.d 0)] 71 (0, 0)) := h2
        obtain ⟨X, hX⟩ : ∃ X, X = r.b := ⟨_, rfl⟩
        obtain ⟨L, hL⟩ : ∃ L, L = mw r.b 2 := ⟨_, rfl⟩
        obtain ⟨R, hR⟩ : ∃ R, R = mw r.b 3 := ⟨_, rfl⟩
        have c0 : wr.cell? ⟨w.heap.size + 1 + 1, 1, none⟩ = some (.int .u64 L) := by rw [hL]; exact (cellAt h2' 1).trans rfl
        have x0 : wr.cell? ⟨w.heap.size, 1, none⟩ = some (.int .u64 X) := by rw [hX]; exact (cellAt h0 1).trans rfl
        have f0 := f2 1
        have e1 : IntKind.u64.wrap 16711680 = 16711680 := by rw [IntKind.wrap_u64]; rfl
        have hand : bits .and .u64 X 16711680 = X / 65536 % 256 * 65536 := by
          rw [hX]
          have := and_mask r.b 16 16711680 (by decide) hb0 hb1 (by decide)
          simpa using this
        have hor : bits .or .u64 L (X / 65536 % 256 * 65536) = R := by
          rw [hL, hR, hX]
          simp (disch := omega) only [u64_or16, mw]
          omega
        have hn := heap_setCell_same wr (w.heap.size + 1 + 1) 1 _ _ (.int .u64 R) h2'
        rw [hR] at hn
        have hw0 : IntKind.i64.wrap 1 = 1 := IntWalk.i64_in _ (by omega)
        have hw1 : IntKind.i64.wrap 2 = 2 := IntWalk.i64_in _ (by omega)
        have hw2 : IntKind.i64.wrap 16 = 16 := IntWalk.i64_in _ (by omega)
        have HN := Lib.hid hn
        have HR := Lib.hid hR
        clear hL hn hR hX h2 h2' f2
        go_wp2
        go_still_tail 15, (by kernel_rfl)
        change wpList _ _ _ _ _ wr.drew
        have c1 : wr.drew.cell? ⟨w.heap.size + 1 + 1, 1, none⟩ = some (.int .u64 L) := c0
        have f1 : wr.drew.frozen? ⟨w.heap.size + 1 + 1, 1, none⟩ = false := f0
        go_wp2
        have hsx : ∀ v : Value, Upd [] w (wr.setCell ⟨w.heap.size + 1 + 1, 1, none⟩ v).drew := fun v => (hU.setCell v (.inr (by show w.heap.size ≤ w.heap.size + 1 + 1; omega))).drew
        go_roundw
        case rel =>
          refine ⟨11, by omega, by go_num, ?_, ?_, ?_, hsx _⟩
          · show (wr.setCell _ _).heap[_]? = _
            rw [heap_setCell_other _ _ _ _ (by show ¬ w.heap.size = w.heap.size + 1 + 1; omega)]; exact h0
          · show (wr.setCell _ _).heap[_]? = _
            rw [heap_setCell_other _ _ _ _ (by show ¬ w.heap.size + 1 = w.heap.size + 1 + 1; omega)]; exact h1
          · show (wr.setCell _ _).heap[_]? = _
            rw [HR.out]; exact HN.out
        case measure => simp [intOf]; omega
      | 11, _ =>
        have h2' : wr.heap[w.heap.size + 1 + 1]? = some (.cells #[.int .u64 (mw r.a 8), .int .u64 (mw r.b 3), .int .u64 (mw r.c 0), .int .u64 (mw r.d 0)] 71 (0, 0)) := h2
        obtain ⟨X, hX⟩ : ∃ X, X = r.b := ⟨_, rfl⟩
        obtain ⟨L, hL⟩ : ∃ L, L = mw r.b 3 := ⟨_, rfl⟩
        obtain ⟨R, hR⟩ : ∃ R, R = mw r.b 4 := ⟨_, rfl⟩
        have c0 : wr.cell? ⟨w.heap.size + 1 + 1, 1, none⟩ = some (.int .u64 L) := by rw [hL]; exact (cellAt h2' 1).trans rfl
        have x0 : wr.cell? ⟨w.heap.size, 1, none⟩ = some (.int .u64 X) := by rw [hX]; exact (cellAt h0 1).trans rfl
        have f0 := f2 1
        have e1 : IntKind.u64.wrap 4278190080 = 4278190080 := by rw [IntKind.wrap_u64]; rfl
        have hand : bits .and .u64 X 4278190080 = X / 16777216 % 256 * 16777216 := by
          rw [hX]
          have := and_mask r.b 24 4278190080 (by decide) hb0 hb1 (by decide)
          simpa using this
        have hor : bits .or .u64 L (X / 16777216 % 256 * 16777216) = R := by
          rw [hL, hR, hX]
          simp (disch := omega) only [u64_or24, mw]
          omega
        have hn := heap_setCell_same wr (w.heap.size + 1 + 1) 1 _ _ (.int .u64 R) h2'
        rw [hR] at hn
        have hw0 : IntKind.i64.wrap 1 = 1 := IntWalk.i64_in _ (by omega)
        have hw1 : IntKind.i64.wrap 3 = 3 := IntWalk.i64_in _ (by omega)
        have hw2 : IntKind.i64.wrap 24 = 24 := IntWalk.i64_in _ (by omega)
        have HN := Lib.hid hn
        have HR := Lib.hid hR
        clear hL hn hR hX h2 h2' f2
        go_wp2
        go_still_tail 15, (by kernel_rfl)
        change wpList _ _ _ _ _ wr.drew
        have c1 : wr.drew.cell? ⟨w.heap.size + 1 + 1, 1, none⟩ = some (.int .u64 L) := c0
        have f1 : wr.drew.frozen? ⟨w.heap.size + 1 + 1, 1, none⟩ = false := f0
        go_wp2
        have hsx : ∀ v : Value, Upd [] w (wr.setCell ⟨w.heap.size + 1 + 1, 1, none⟩ v).drew := fun v => (hU.setCell v (.inr (by show w.heap.size ≤ w.heap.size + 1 + 1; omega))).drew
        go_roundw
        case rel =>
          refine ⟨12, by omega, by go_num, ?_, ?_, ?_, hsx _⟩
          · show (wr.setCell _ _).heap[_]? = _
            rw [heap_setCell_other _ _ _ _ (by show ¬ w.heap.size = w.heap.size + 1 + 1; omega)]; exact h0
          · show (wr.setCell _ _).heap[_]? = _
            rw [heap_setCell_other _ _ _ _ (by show ¬ w.heap.size + 1 = w.heap.size + 1 + 1; omega)]; exact h1
          · show (wr.setCell _ _).heap[_]? = _
            rw [HR.out]; exact HN.out
        case measure => simp [intOf]; omega
      | 12, _ =>
        have h2' : wr.heap[w.heap.size + 1 + 1]? = some (.cells #[.int .u64 (mw r.a 8), .int .u64 (mw r.b 4), .int .u64 (mw r.c 0), .int .u64 (mw r.d 0)] 71 (0, 0)) := h2
        obtain ⟨X, hX⟩ : ∃ X, X = r.b := ⟨_, rfl⟩
        obtain ⟨L, hL⟩ : ∃ L, L = mw r.b 4 := ⟨_, rfl⟩
        obtain ⟨R, hR⟩ : ∃ R, R = mw r.b 5 := ⟨_, rfl⟩
        have c0 : wr.cell? ⟨w.heap.size + 1 + 1, 1, none⟩ = some (.int .u64 L) := by rw [hL]; exact (cellAt h2' 1).trans rfl
        have x0 : wr.cell? ⟨w.heap.size, 1, none⟩ = some (.int .u64 X) := by rw [hX]; exact (cellAt h0 1).trans rfl
        have f0 := f2 1
        have e1 : IntKind.u64.wrap 1095216660480 = 1095216660480 := by rw [IntKind.wrap_u64]; rfl
        have hand : bits .and .u64 X 1095216660480 = X / 4294967296 % 256 * 4294967296 := by
          rw [hX]
          have := and_mask r.b 32 1095216660480 (by decide) hb0 hb1 (by decide)
          simpa using this
        have hor : bits .or .u64 L (X / 4294967296 % 256 * 4294967296) = R := by
          rw [hL, hR, hX]
          simp (disch := omega) only [u64_or32, mw]
          omega
        have hn := heap_setCell_same wr (w.heap.size + 1 + 1) 1 _ _ (.int .u64 R) h2'
        rw [hR] at hn
        have hw0 : IntKind.i64.wrap 1 = 1 := IntWalk.i64_in _ (by omega)
        have hw1 : IntKind.i64.wrap 4 = 4 := IntWalk.i64_in _ (by omega)
        have hw2 : IntKind.i64.wrap 32 = 32 := IntWalk.i64_in _ (by omega)
        have HN := Lib.hid hn
        have HR := Lib.hid hR
        clear hL hn hR hX h2 h2' f2
        go_wp2
        go_still_tail 15, (by kernel_rfl)
        change wpList _ _ _ _ _ wr.drew
        have c1 : wr.drew.cell? ⟨w.heap.size + 1 + 1, 1, none⟩ = some (.int .u64 L) := c0
        have f1 : wr.drew.frozen? ⟨w.heap.size + 1 + 1, 1, none⟩ = false := f0
        go_wp2
        have hsx : ∀ v : Value, Upd [] w (wr.setCell ⟨w.heap.size + 1 + 1, 1, none⟩ v).drew := fun v => (hU.setCell v (.inr (by show w.heap.size ≤ w.heap.size + 1 + 1; omega))).drew
        go_roundw
        case rel =>
          refine ⟨13, by omega, by go_num, ?_, ?_, ?_, hsx _⟩
          · show (wr.setCell _ _).heap[_]? = _
            rw [heap_setCell_other _ _ _ _ (by show ¬ w.heap.size = w.heap.size + 1 + 1; omega)]; exact h0
          · show (wr.setCell _ _).heap[_]? = _
            rw [heap_setCell_other _ _ _ _ (by show ¬ w.heap.size + 1 = w.heap.size + 1 + 1; omega)]; exact h1
          · show (wr.setCell _ _).heap[_]? = _
            rw [HR.out]; exact HN.out
        case measure => simp [intOf]; omega
      | 13, _ =>
        have h2' : wr.heap[w.heap.size + 1 + 1]? = some (.cells #[.int .u64 (mw r.a 8), .int .u64 (mw r.b 5), .int .u64 (mw r.c 0), .int .u64 (mw r.d 0)] 71 (0, 0)) := h2
        obtain ⟨X, hX⟩ : ∃ X, X = r.b := ⟨_, rfl⟩
        obtain ⟨L, hL⟩ : ∃ L, L = mw r.b 5 := ⟨_, rfl⟩
        obtain ⟨R, hR⟩ : ∃ R, R = mw r.b 6 := ⟨_, rfl⟩
        have c0 : wr.cell? ⟨w.heap.size + 1 + 1, 1, none⟩ = some (.int .u64 L) := by rw [hL]; exact (cellAt h2' 1).trans rfl
        have x0 : wr.cell? ⟨w.heap.size, 1, none⟩ = some (.int .u64 X) := by rw [hX]; exact (cellAt h0 1).trans rfl
        have f0 := f2 1
        have e1 : IntKind.u64.wrap 280375465082880 = 280375465082880 := by rw [IntKind.wrap_u64]; rfl
        have hand : bits .and .u64 X 280375465082880 = X / 1099511627776 % 256 * 1099511627776 := by
          rw [hX]
          have := and_mask r.b 40 280375465082880 (by decide) hb0 hb1 (by decide)
          simpa using this
        have hor : bits .or .u64 L (X / 1099511627776 % 256 * 1099511627776) = R := by
          rw [hL, hR, hX]
          simp (disch := omega) only [u64_or40, mw]
          omega
        have hn := heap_setCell_same wr (w.heap.size + 1 + 1) 1 _ _ (.int .u64 R) h2'
        rw [hR] at hn
        have hw0 : IntKind.i64.wrap 1 = 1 := IntWalk.i64_in _ (by omega)
        have hw1 : IntKind.i64.wrap 5 = 5 := IntWalk.i64_in _ (by omega)
        have hw2 : IntKind.i64.wrap 40 = 40 := IntWalk.i64_in _ (by omega)
        have HN := Lib.hid hn
        have HR := Lib.hid hR
        clear hL hn hR hX h2 h2' f2
        go_wp2
        go_still_tail 15, (by kernel_rfl)
        change wpList _ _ _ _ _ wr.drew
        have c1 : wr.drew.cell? ⟨w.heap.size + 1 + 1, 1, none⟩ = some (.int .u64 L) := c0
        have f1 : wr.drew.frozen? ⟨w.heap.size + 1 + 1, 1, none⟩ = false := f0
        go_wp2
        have hsx : ∀ v : Value, Upd [] w (wr.setCell ⟨w.heap.size + 1 + 1, 1, none⟩ v).drew := fun v => (hU.setCell v (.inr (by show w.heap.size ≤ w.heap.size + 1 + 1; omega))).drew
        go_roundw
        case rel =>
          refine ⟨14, by omega, by go_num, ?_, ?_, ?_, hsx _⟩
          · show (wr.setCell _ _).heap[_]? = _
            rw [heap_setCell_other _ _ _ _ (by show ¬ w.heap.size = w.heap.size + 1 + 1; omega)]; exact h0
          · show (wr.setCell _ _).heap[_]? = _
            rw [heap_setCell_other _ _ _ _ (by show ¬ w.heap.size + 1 = w.heap.size + 1 + 1; omega)]; exact h1
          · show (wr.setCell _ _).heap[_]? = _
            rw [HR.out]; exact HN.out
        case measure => simp [intOf]; omega
      | 14, _ =>
        have h2' : wr.heap[w.heap.size + 1 + 1]? = some (.cells #[.int .u64 (mw r.a 8), .int .u64 (mw r.b 6), .int .u64 (mw r.c 0), .int .u64 (mw r.d 0)] 71 (0, 0)) := h2
        obtain ⟨X, hX⟩ : ∃ X, X = r.b := ⟨_, rfl⟩
        obtain ⟨L, hL⟩ : ∃ L, L = mw r.b 6 := ⟨_, rfl⟩
        obtain ⟨R, hR⟩ : ∃ R, R = mw r.b 7 := ⟨_, rfl⟩
        have c0 : wr.cell? ⟨w.heap.size + 1 + 1, 1, none⟩ = some (.int .u64 L) := by rw [hL]; exact (cellAt h2' 1).trans rfl
        have x0 : wr.cell? ⟨w.heap.size, 1, none⟩ = some (.int .u64 X) := by rw [hX]; exact (cellAt h0 1).trans rfl
        have f0 := f2 1
        have e1 : IntKind.u64.wrap 71776119061217280 = 71776119061217280 := by rw [IntKind.wrap_u64]; rfl
        have hand : bits .and .u64 X 71776119061217280 = X / 281474976710656 % 256 * 281474976710656 := by
          rw [hX]
          have := and_mask r.b 48 71776119061217280 (by decide) hb0 hb1 (by decide)
          simpa using this
        have hor : bits .or .u64 L (X / 281474976710656 % 256 * 281474976710656) = R := by
          rw [hL, hR, hX]
          simp (disch := omega) only [u64_or48, mw]
          omega
        have hn := heap_setCell_same wr (w.heap.size + 1 + 1) 1 _ _ (.int .u64 R) h2'
        rw [hR] at hn
        have hw0 : IntKind.i64.wrap 1 = 1 := IntWalk.i64_in _ (by omega)
        have hw1 : IntKind.i64.wrap 6 = 6 := IntWalk.i64_in _ (by omega)
        have hw2 : IntKind.i64.wrap 48 = 48 := IntWalk.i64_in _ (by omega)
        have HN := Lib.hid hn
        have HR := Lib.hid hR
        clear hL hn hR hX h2 h2' f2
        go_wp2
        go_still_tail 15, (by kernel_rfl)
        change wpList _ _ _ _ _ wr.drew
        have c1 : wr.drew.cell? ⟨w.heap.size + 1 + 1, 1, none⟩ = some (.int .u64 L) := c0
        have f1 : wr.drew.frozen? ⟨w.heap.size + 1 + 1, 1, none⟩ = false := f0
        go_wp2
        have hsx : ∀ v : Value, Upd [] w (wr.setCell ⟨w.heap.size + 1 + 1, 1, none⟩ v).drew := fun v => (hU.setCell v (.inr (by show w.heap.size ≤ w.heap.size + 1 + 1; omega))).drew
        go_roundw
        case rel =>
          refine ⟨15, by omega, by go_num, ?_, ?_, ?_, hsx _⟩
          · show (wr.setCell _ _).heap[_]? = _
            rw [heap_setCell_other _ _ _ _ (by show ¬ w.heap.size = w.heap.size + 1 + 1; omega)]; exact h0
          · show (wr.setCell _ _).heap[_]? = _
            rw [heap_setCell_other _ _ _ _ (by show ¬ w.heap.size + 1 = w.heap.size + 1 + 1; omega)]; exact h1
          · show (wr.setCell _ _).heap[_]? = _
            rw [HR.out]; exact HN.out
        case measure => simp [intOf]; omega
      | 15, _ =>
        have h2' : wr.heap[w.heap.size + 1 + 1]? = some (.cells #[.int .u64 (mw r.a 8), .int .u64 (mw r.b 7), .int .u64 (mw r.c 0), .int .u64 (mw r.d 0)] 71 (0, 0)) := h2
        obtain ⟨X, hX⟩ : ∃ X, X = r.b := ⟨_, rfl⟩
        obtain ⟨L, hL⟩ : ∃ L, L = mw r.b 7 := ⟨_, rfl⟩
        obtain ⟨R, hR⟩ : ∃ R, R = mw r.b 8 := ⟨_, rfl⟩
        have c0 : wr.cell? ⟨w.heap.size + 1 + 1, 1, none⟩ = some (.int .u64 L) := by rw [hL]; exact (cellAt h2' 1).trans rfl
        have x0 : wr.cell? ⟨w.heap.size, 1, none⟩ = some (.int .u64 X) := by rw [hX]; exact (cellAt h0 1).trans rfl
        have f0 := f2 1
        have e1 : IntKind.u64.wrap 18374686479671623680 = 18374686479671623680 := by rw [IntKind.wrap_u64]; rfl
        have hand : bits .and .u64 X 18374686479671623680 = X / 72057594037927936 % 256 * 72057594037927936 := by
          rw [hX]
          have := and_mask r.b 56 18374686479671623680 (by decide) hb0 hb1 (by decide)
          simpa using this
        have hor : bits .or .u64 L (X / 72057594037927936 % 256 * 72057594037927936) = R := by
          rw [hL, hR, hX]
          simp (disch := omega) only [u64_or56, mw]
          omega
        have hn := heap_setCell_same wr (w.heap.size + 1 + 1) 1 _ _ (.int .u64 R) h2'
        rw [hR] at hn
        have hw0 : IntKind.i64.wrap 1 = 1 := IntWalk.i64_in _ (by omega)
        have hw1 : IntKind.i64.wrap 7 = 7 := IntWalk.i64_in _ (by omega)
        have hw2 : IntKind.i64.wrap 56 = 56 := IntWalk.i64_in _ (by omega)
        have HN := Lib.hid hn
        have HR := Lib.hid hR
        clear hL hn hR hX h2 h2' f2
        go_wp2
        go_still_tail 15, (by kernel_rfl)
        change wpList _ _ _ _ _ wr.drew
        have c1 : wr.drew.cell? ⟨w.heap.size + 1 + 1, 1, none⟩ = some (.int .u64 L) := c0
        have f1 : wr.drew.frozen? ⟨w.heap.size + 1 + 1, 1, none⟩ = false := f0
        go_wp2
        have hsx : ∀ v : Value, Upd [] w (wr.setCell ⟨w.heap.size + 1 + 1, 1, none⟩ v).drew := fun v => (hU.setCell v (.inr (by show w.heap.size ≤ w.heap.size + 1 + 1; omega))).drew
        go_roundw
        case rel =>
          refine ⟨16, by omega, by go_num, ?_, ?_, ?_, hsx _⟩
          · show (wr.setCell _ _).heap[_]? = _
            rw [heap_setCell_other _ _ _ _ (by show ¬ w.heap.size = w.heap.size + 1 + 1; omega)]; exact h0
          · show (wr.setCell _ _).heap[_]? = _
            rw [heap_setCell_other _ _ _ _ (by show ¬ w.heap.size + 1 = w.heap.size + 1 + 1; omega)]; exact h1
          · show (wr.setCell _ _).heap[_]? = _
            rw [HR.out]; exact HN.out
        case measure => simp [intOf]; omega
      | 16, _ =>
        have h2' : wr.heap[w.heap.size + 1 + 1]? = some (.cells #[.int .u64 (mw r.a 8), .int .u64 (mw r.b 8), .int .u64 (mw r.c 0), .int .u64 (mw r.d 0)] 71 (0, 0)) := h2
        obtain ⟨X, hX⟩ : ∃ X, X = r.c := ⟨_, rfl⟩
        obtain ⟨L, hL⟩ : ∃ L, L = mw r.c 0 := ⟨_, rfl⟩
        obtain ⟨R, hR⟩ : ∃ R, R = mw r.c 1 := ⟨_, rfl⟩
        have c0 : wr.cell? ⟨w.heap.size + 1 + 1, 2, none⟩ = some (.int .u64 L) := by rw [hL]; exact (cellAt h2' 2).trans rfl
        have x0 : wr.cell? ⟨w.heap.size, 2, none⟩ = some (.int .u64 X) := by rw [hX]; exact (cellAt h0 2).trans rfl
        have f0 := f2 2
        have e1 : IntKind.u64.wrap 255 = 255 := by rw [IntKind.wrap_u64]; rfl
        have hand : bits .and .u64 X 255 = X % 256 := by
          rw [hX]
          have := and_mask r.c 0 255 (by decide) hc0 hc1 (by decide)
          simpa using this
        have hor : bits .or .u64 L (X % 256) = R := by
          rw [hL, hR, hX]
          exact or_zero64 _ (by omega)
        have hn := heap_setCell_same wr (w.heap.size + 1 + 1) 2 _ _ (.int .u64 R) h2'
        rw [hR] at hn
        have hw0 : IntKind.i64.wrap 2 = 2 := IntWalk.i64_in _ (by omega)
        have hw1 : IntKind.i64.wrap 0 = 0 := IntWalk.i64_in _ (by omega)
        have hw2 : IntKind.i64.wrap 0 = 0 := IntWalk.i64_in _ (by omega)
        have HN := Lib.hid hn
        have HR := Lib.hid hR
        clear hL hn hR hX h2 h2' f2
        go_wp2
        go_still_tail 15, (by kernel_rfl)
        change wpList _ _ _ _ _ wr.drew
        have c1 : wr.drew.cell? ⟨w.heap.size + 1 + 1, 2, none⟩ = some (.int .u64 L) := c0
        have f1 : wr.drew.frozen? ⟨w.heap.size + 1 + 1, 2, none⟩ = false := f0
        go_wp2
        have hsx : ∀ v : Value, Upd [] w (wr.setCell ⟨w.heap.size + 1 + 1, 2, none⟩ v).drew := fun v => (hU.setCell v (.inr (by show w.heap.size ≤ w.heap.size + 1 + 1; omega))).drew
        go_roundw
        case rel =>
          refine ⟨17, by omega, by go_num, ?_, ?_, ?_, hsx _⟩
          · show (wr.setCell _ _).heap[_]? = _
            rw [heap_setCell_other _ _ _ _ (by show ¬ w.heap.size = w.heap.size + 1 + 1; omega)]; exact h0
          · show (wr.setCell _ _).heap[_]? = _
            rw [heap_setCell_other _ _ _ _ (by show ¬ w.heap.size + 1 = w.heap.size + 1 + 1; omega)]; exact h1
          · show (wr.setCell _ _).heap[_]? = _
            rw [HR.out]; exact HN.out
        case measure => simp [intOf]; omega
      | 17, _ =>
        have h2' : wr.heap[w.heap.size + 1 + 1]? = some (.cells #[.int .u64 (mw r.a 8), .int .u64 (mw r.b 8), .int .u64 (mw r.c 1), .int .u64 (mw r.d 0)] 71 (0, 0)) := h2
        obtain ⟨X, hX⟩ : ∃ X, X = r.c := ⟨_, rfl⟩
        obtain ⟨L, hL⟩ : ∃ L, L = mw r.c 1 := ⟨_, rfl⟩
        obtain ⟨R, hR⟩ : ∃ R, R = mw r.c 2 := ⟨_, rfl⟩
        have c0 : wr.cell? ⟨w.heap.size + 1 + 1, 2, none⟩ = some (.int .u64 L) := by rw [hL]; exact (cellAt h2' 2).trans rfl
        have x0 : wr.cell? ⟨w.heap.size, 2, none⟩ = some (.int .u64 X) := by rw [hX]; exact (cellAt h0 2).trans rfl
        have f0 := f2 2
        have e1 : IntKind.u64.wrap 65280 = 65280 := by rw [IntKind.wrap_u64]; rfl
        have hand : bits .and .u64 X 65280 = X / 256 % 256 * 256 := by
          rw [hX]
          have := and_mask r.c 8 65280 (by decide) hc0 hc1 (by decide)
          simpa using this
        have hor : bits .or .u64 L (X / 256 % 256 * 256) = R := by
          rw [hL, hR, hX]
          simp (disch := omega) only [u64_or8, mw]
          omega
        have hn := heap_setCell_same wr (w.heap.size + 1 + 1) 2 _ _ (.int .u64 R) h2'
        rw [hR] at hn
        have hw0 : IntKind.i64.wrap 2 = 2 := IntWalk.i64_in _ (by omega)
        have hw1 : IntKind.i64.wrap 1 = 1 := IntWalk.i64_in _ (by omega)
        have hw2 : IntKind.i64.wrap 8 = 8 := IntWalk.i64_in _ (by omega)
        have HN := Lib.hid hn
        have HR := Lib.hid hR
        clear hL hn hR hX h2 h2' f2
        go_wp2
        go_still_tail 15, (by kernel_rfl)
        change wpList _ _ _ _ _ wr.drew
        have c1 : wr.drew.cell? ⟨w.heap.size + 1 + 1, 2, none⟩ = some (.int .u64 L) := c0
        have f1 : wr.drew.frozen? ⟨w.heap.size + 1 + 1, 2, none⟩ = false := f0
        go_wp2
        have hsx : ∀ v : Value, Upd [] w (wr.setCell ⟨w.heap.size + 1 + 1, 2, none⟩ v).drew := fun v => (hU.setCell v (.inr (by show w.heap.size ≤ w.heap.size + 1 + 1; omega))).drew
        go_roundw
        case rel =>
          refine ⟨18, by omega, by go_num, ?_, ?_, ?_, hsx _⟩
          · show (wr.setCell _ _).heap[_]? = _
            rw [heap_setCell_other _ _ _ _ (by show ¬ w.heap.size = w.heap.size + 1 + 1; omega)]; exact h0
          · show (wr.setCell _ _).heap[_]? = _
            rw [heap_setCell_other _ _ _ _ (by show ¬ w.heap.size + 1 = w.heap.size + 1 + 1; omega)]; exact h1
          · show (wr.setCell _ _).heap[_]? = _
            rw [HR.out]; exact HN.out
        case measure => simp [intOf]; omega
      | 18, _ =>
        have h2' : wr.heap[w.heap.size + 1 + 1]? = some (.cells #[.int .u64 (mw r.a 8), .int .u64 (mw r.b 8), .int .u64 (mw r.c 2), .int .u64 (mw r.d 0)] 71 (0, 0)) := h2
        obtain ⟨X, hX⟩ : ∃ X, X = r.c := ⟨_, rfl⟩
        obtain ⟨L, hL⟩ : ∃ L, L = mw r.c 2 := ⟨_, rfl⟩
        obtain ⟨R, hR⟩ : ∃ R, R = mw r.c 3 := ⟨_, rfl⟩
        have c0 : wr.cell? ⟨w.heap.size + 1 + 1, 2, none⟩ = some (.int .u64 L) := by rw [hL]; exact (cellAt h2' 2).trans rfl
        have x0 : wr.cell? ⟨w.heap.size, 2, none⟩ = some (.int .u64 X) := by rw [hX]; exact (cellAt h0 2).trans rfl
        have f0 := f2 2
        have e1 : IntKind.u64.wrap 16711680 = 16711680 := by rw [IntKind.wrap_u64]; rfl
        have hand : bits .and .u64 X 16711680 = X / 65536 % 256 * 65536 := by
          rw [hX]
          have := and_mask r.c 16 16711680 (by decide) hc0 hc1 (by decide)
          simpa using this
        have hor : bits .or .u64 L (X / 65536 % 256 * 65536) = R := by
          rw [hL, hR, hX]
          simp (disch := omega) only [u64_or16, mw]
          omega
        have hn := heap_setCell_same wr (w.heap.size + 1 + 1) 2 _ _ (.int .u64 R) h2'
        rw [hR] at hn
        have hw0 : IntKind.i64.wrap 2 = 2 := IntWalk.i64_in _ (by omega)
        have hw1 : IntKind.i64.wrap 2 = 2 := IntWalk.i64_in _ (by omega)
        have hw2 : IntKind.i64.wrap 16 = 16 := IntWalk.i64_in _ (by omega)
        have HN := Lib.hid hn
        have HR := Lib.hid hR
        clear hL hn hR hX h2 h2' f2
        go_wp2
        go_still_tail 15, (by kernel_rfl)
        change wpList _ _ _ _ _ wr.drew
        have c1 : wr.drew.cell? ⟨w.heap.size + 1 + 1, 2, none⟩ = some (.int .u64 L) := c0
        have f1 : wr.drew.frozen? ⟨w.heap.size + 1 + 1, 2, none⟩ = false := f0
        go_wp2
        have hsx : ∀ v : Value, Upd [] w (wr.setCell ⟨w.heap.size + 1 + 1, 2, none⟩ v).drew := fun v => (hU.setCell v (.inr (by show w.heap.size ≤ w.heap.size + 1 + 1; omega))).drew
        go_roundw
        case rel =>
          refine ⟨19, by omega, by go_num, ?_, ?_, ?_, hsx _⟩
          · show (wr.setCell _ _).heap[_]? = _
            rw [heap_setCell_other _ _ _ _ (by show ¬ w.heap.size = w.heap.size + 1 + 1; omega)]; exact h0
          · show (wr.setCell _ _).heap[_]? = _
            rw [heap_setCell_other _ _ _ _ (by show ¬ w.heap.size + 1 = w.heap.size + 1 + 1; omega)]; exact h1
          · show (wr.setCell _ _).heap[_]? = _
            rw [HR.out]; exact HN.out
        case measure => simp [intOf]; omega
      | 19, _ =>
        have h2' : wr.heap[w.heap.size + 1 + 1]? = some (.cells #[.int .u64 (mw r.a 8), .int .u64 (mw r.b 8), .int .u64 (mw r.c 3), .int .u64 (mw r.d 0)] 71 (0, 0)) := h2
        obtain ⟨X, hX⟩ : ∃ X, X = r.c := ⟨_, rfl⟩
        obtain ⟨L, hL⟩ : ∃ L, L = mw r.c 3 := ⟨_, rfl⟩
        obtain ⟨R, hR⟩ : ∃ R, R = mw r.c 4 := ⟨_, rfl⟩
        have c0 : wr.cell? ⟨w.heap.size + 1 + 1, 2, none⟩ = some (.int .u64 L) := by rw [hL]; exact (cellAt h2' 2).trans rfl
        have x0 : wr.cell? ⟨w.heap.size, 2, none⟩ = some (.int .u64 X) := by rw [hX]; exact (cellAt h0 2).trans rfl
        have f0 := f2 2
        have e1 : IntKind.u64.wrap 4278190080 = 4278190080 := by rw [IntKind.wrap_u64]; rfl
        have hand : bits .and .u64 X 4278190080 = X / 16777216 % 256 * 16777216 := by
          rw [hX]
          have := and_mask r.c 24 4278190080 (by decide) hc0 hc1 (by decide)
          simpa using this
        have hor : bits .or .u64 L (X / 16777216 % 256 * 16777216) = R := by
          rw [hL, hR, hX]
          simp (disch := omega) only [u64_or24, mw]
          omega
        have hn := heap_setCell_same wr (w.heap.size + 1 + 1) 2 _ _ (.int .u64 R) h2'
        rw [hR] at hn
        have hw0 : IntKind.i64.wrap 2 = 2 := IntWalk.i64_in _ (by omega)
        have hw1 : IntKind.i64.wrap 3 = 3 := IntWalk.i64_in _ (by omega)
        have hw2 : IntKind.i64.wrap 24 = 24 := IntWalk.i64_in _ (by omega)
        have HN := Lib.hid hn
        have HR := Lib.hid hR
        clear hL hn hR hX h2 h2' f2
        go_wp2
        go_still_tail 15, (by kernel_rfl)
        change wpList _ _ _ _ _ wr.drew
        have c1 : wr.drew.cell? ⟨w.heap.size + 1 + 1, 2, none⟩ = some (.int .u64 L) := c0
        have f1 : wr.drew.frozen? ⟨w.heap.size + 1 + 1, 2, none⟩ = false := f0
        go_wp2
        have hsx : ∀ v : Value, Upd [] w (wr.setCell ⟨w.heap.size + 1 + 1, 2, none⟩ v).drew := fun v => (hU.setCell v (.inr (by show w.heap.size ≤ w.heap.size + 1 + 1; omega))).drew
        go_roundw
        case rel =>
          refine ⟨20, by omega, by go_num, ?_, ?_, ?_, hsx _⟩
          · show (wr.setCell _ _).heap[_]? = _
            rw [heap_setCell_other _ _ _ _ (by show ¬ w.heap.size = w.heap.size + 1 + 1; omega)]; exact h0
          · show (wr.setCell _ _).heap[_]? = _
            rw [heap_setCell_other _ _ _ _ (by show ¬ w.heap.size + 1 = w.heap.size + 1 + 1; omega)]; exact h1
          · show (wr.setCell _ _).heap[_]? = _
            rw [HR.out]; exact HN.out
        case measure => simp [intOf]; omega
      | 20, _ =>
        have h2' : wr.heap[w.heap.size + 1 + 1]? = some (.cells #[.int .u64 (mw r.a 8), .int .u64 (mw r.b 8), .int .u64 (mw r.c 4), .int .u64 (mw r.d 0)] 71 (0, 0)) := h2
        obtain ⟨X, hX⟩ : ∃ X, X = r.c := ⟨_, rfl⟩
        obtain ⟨L, hL⟩ : ∃ L, L = mw r.c 4 := ⟨_, rfl⟩
        obtain ⟨R, hR⟩ : ∃ R, R = mw r.c 5 := ⟨_, rfl⟩
        have c0 : wr.cell? ⟨w.heap.size + 1 + 1, 2, none⟩ = some (.int .u64 L) := by rw [hL]; exact (cellAt h2' 2).trans rfl
        have x0 : wr.cell? ⟨w.heap.size, 2, none⟩ = some (.int .u64 X) := by rw [hX]; exact (cellAt h0 2).trans rfl
        have f0 := f2 2
        have e1 : IntKind.u64.wrap 1095216660480 = 1095216660480 := by rw [IntKind.wrap_u64]; rfl
        have hand : bits .and .u64 X 1095216660480 = X / 4294967296 % 256 * 4294967296 := by
          rw [hX]
          have := and_mask r.c 32 1095216660480 (by decide) hc0 hc1 (by decide)
          simpa using this
        have hor : bits .or .u64 L (X / 4294967296 % 256 * 4294967296) = R := by
          rw [hL, hR, hX]
          simp (disch := omega) only [u64_or32, mw]
          omega
        have hn := heap_setCell_same wr (w.heap.size + 1 + 1) 2 _ _ (.int .u64 R) h2'
        rw [hR] at hn
        have hw0 : IntKind.i64.wrap 2 = 2 := IntWalk.i64_in _ (by omega)
        have hw1 : IntKind.i64.wrap 4 = 4 := IntWalk.i64_in _ (by omega)
        have hw2 : IntKind.i64.wrap 32 = 32 := IntWalk.i64_in _ (by omega)
        have HN := Lib.hid hn
        have HR := Lib.hid hR
        clear hL hn hR hX h2 h2' f2
        go_wp2
        go_still_tail 15, (by kernel_rfl)
        change wpList _ _ _ _ _ wr.drew
        have c1 : wr.drew.cell? ⟨w.heap.size + 1 + 1, 2, none⟩ = some (.int .u64 L) := c0
        have f1 : wr.drew.frozen? ⟨w.heap.size + 1 + 1, 2, none⟩ = false := f0
        go_wp2
        have hsx : ∀ v : Value, Upd [] w (wr.setCell ⟨w.heap.size + 1 + 1, 2, none⟩ v).drew := fun v => (hU.setCell v (.inr (by show w.heap.size ≤ w.heap.size + 1 + 1; omega))).drew
        go_roundw
        case rel =>
          refine ⟨21, by omega, by go_num, ?_, ?_, ?_, hsx _⟩
          · show (wr.setCell _ _).heap[_]? = _
            rw [heap_setCell_other _ _ _ _ (by show ¬ w.heap.size = w.heap.size + 1 + 1; omega)]; exact h0
          · show (wr.setCell _ _).heap[_]? = _
            rw [heap_setCell_other _ _ _ _ (by show ¬ w.heap.size + 1 = w.heap.size + 1 + 1; omega)]; exact h1
          · show (wr.setCell _ _).heap[_]? = _
            rw [HR.out]; exact HN.out
        case measure => simp [intOf]; omega
      | 21, _ =>
        have h2' : wr.heap[w.heap.size + 1 + 1]? = some (.cells #[.int .u64 (mw r.a 8), .int .u64 (mw r.b 8), .int .u64 (mw r.c 5), .int .u64 (mw r.d 0)] 71 (0, 0)) := h2
        obtain ⟨X, hX⟩ : ∃ X, X = r.c := ⟨_, rfl⟩
        obtain ⟨L, hL⟩ : ∃ L, L = mw r.c 5 := ⟨_, rfl⟩
        obtain ⟨R, hR⟩ : ∃ R, R = mw r.c 6 := ⟨_, rfl⟩
        have c0 : wr.cell? ⟨w.heap.size + 1 + 1, 2, none⟩ = some (.int .u64 L) := by rw [hL]; exact (cellAt h2' 2).trans rfl
        have x0 : wr.cell? ⟨w.heap.size, 2, none⟩ = some (.int .u64 X) := by rw [hX]; exact (cellAt h0 2).trans rfl
        have f0 := f2 2
        have e1 : IntKind.u64.wrap 280375465082880 = 280375465082880 := by rw [IntKind.wrap_u64]; rfl
        have hand : bits .and .u64 X 280375465082880 = X / 1099511627776 % 256 * 1099511627776 := by
          rw [hX]
          have := and_mask r.c 40 280375465082880 (by decide) hc0 hc1 (by decide)
          simpa using this
        have hor : bits .or .u64 L (X / 1099511627776 % 256 * 1099511627776) = R := by
          rw [hL, hR, hX]
          simp (disch := omega) only [u64_or40, mw]
          omega
        have hn := heap_setCell_same wr (w.heap.size + 1 + 1) 2 _ _ (.int .u64 R) h2'
        rw [hR] at hn
        have hw0 : IntKind.i64.wrap 2 = 2 := IntWalk.i64_in _ (by omega)
        have hw1 : IntKind.i64.wrap 5 = 5 := IntWalk.i64_in _ (by omega)
        have hw2 : IntKind.i64.wrap 40 = 40 := IntWalk.i64_in _ (by omega)
        have HN := Lib.hid hn
        have HR := Lib.hid hR
        clear hL hn hR hX h2 h2' f2
        go_wp2
        go_still_tail 15, (by kernel_rfl)
        change wpList _ _ _ _ _ wr.drew
        have c1 : wr.drew.cell? ⟨w.heap.size + 1 + 1, 2, none⟩ = some (.int .u64 L) := c0
        have f1 : wr.drew.frozen? ⟨w.heap.size + 1 + 1, 2, none⟩ = false := f0
        go_wp2
        have hsx : ∀ v : Value, Upd [] w (wr.setCell ⟨w.heap.size + 1 + 1, 2, none⟩ v).drew := fun v => (hU.setCell v (.inr (by show w.heap.size ≤ w.heap.size + 1 + 1; omega))).drew
        go_roundw
        case rel =>
          refine ⟨22, by omega, by go_num, ?_, ?_, ?_, hsx _⟩
          · show (wr.setCell _ _).heap[_]? = _
            rw [heap_setCell_other _ _ _ _ (by show ¬ w.heap.size = w.heap.size + 1 + 1; omega)]; exact h0
          · show (wr.setCell _ _).heap[_]? = _
            rw [heap_setCell_other _ _ _ _ (by show ¬ w.heap.size + 1 = w.heap.size + 1 + 1; omega)]; exact h1
          · show (wr.setCell _ _).heap[_]? = _
            rw [HR.out]; exact HN.out
        case measure => simp [intOf]; omega
      | 22, _ =>
        have h2' : wr.heap[w.heap.size + 1 + 1]? = some (.cells #[.int .u64 (mw r.a 8), .int .u64 (mw r.b 8), .int .u64 (mw r.c 6), .int .u64 (mw r.d 0)] 71 (0, 0)) := h2
        obtain ⟨X, hX⟩ : ∃ X, X = r.c := ⟨_, rfl⟩
        obtain ⟨L, hL⟩ : ∃ L, L = mw r.c 6 := ⟨_, rfl⟩
        obtain ⟨R, hR⟩ : ∃ R, R = mw r.c 7 := ⟨_, rfl⟩
        have c0 : wr.cell? ⟨w.heap.size + 1 + 1, 2, none⟩ = some (.int .u64 L) := by rw [hL]; exact (cellAt h2' 2).trans rfl
        have x0 : wr.cell? ⟨w.heap.size, 2, none⟩ = some (.int .u64 X) := by rw [hX]; exact (cellAt h0 2).trans rfl
        have f0 := f2 2
        have e1 : IntKind.u64.wrap 71776119061217280 = 71776119061217280 := by rw [IntKind.wrap_u64]; rfl
        have hand : bits .and .u64 X 71776119061217280 = X / 281474976710656 % 256 * 281474976710656 := by
          rw [hX]
          have := and_mask r.c 48 71776119061217280 (by decide) hc0 hc1 (by decide)
          simpa using this
        have hor : bits .or .u64 L (X / 281474976710656 % 256 * 281474976710656) = R := by
          rw [hL, hR, hX]
          simp (disch := omega) only [u64_or48, mw]
          omega
        have hn := heap_setCell_same wr (w.heap.size + 1 + 1) 2 _ _ (.int .u64 R) h2'
        rw [hR] at hn
        have hw0 : IntKind.i64.wrap 2 = 2 := IntWalk.i64_in _ (by omega)
        have hw1 : IntKind.i64.wrap 6 = 6 := IntWalk.i64_in _ (by omega)
        have hw2 : IntKind.i64.wrap 48 = 48 := IntWalk.i64_in _ (by omega)
        have HN := Lib.hid hn
        have HR := Lib.hid hR
        clear hL hn hR hX h2 h2' f2
        go_wp2
        go_still_tail 15, (by kernel_rfl)
        change wpList _ _ _ _ _ wr.drew
        have c1 : wr.drew.cell? ⟨w.heap.size + 1 + 1, 2, none⟩ = some (.int .u64 L) := c0
        have f1 : wr.drew.frozen? ⟨w.heap.size + 1 + 1, 2, none⟩ = false := f0
        go_wp2
        have hsx : ∀ v : Value, Upd [] w (wr.setCell ⟨w.heap.size + 1 + 1, 2, none⟩ v).drew := fun v => (hU.setCell v (.inr (by show w.heap.size ≤ w.heap.size + 1 + 1; omega))).drew
        go_roundw
        case rel =>
          refine ⟨23, by omega, by go_num, ?_, ?_, ?_, hsx _⟩
          · show (wr.setCell _ _).heap[_]? = _
            rw [heap_setCell_other _ _ _ _ (by show ¬ w.heap.size = w.heap.size + 1 + 1; omega)]; exact h0
          · show (wr.setCell _ _).heap[_]? = _
            rw [heap_setCell_other _ _ _ _ (by show ¬ w.heap.size + 1 = w.heap.size + 1 + 1; omega)]; exact h1
          · show (wr.setCell _ _).heap[_]? = _
            rw [HR.out]; exact HN.out
        case measure => simp [intOf]; omega
      | 23, _ =>
        have h2' : wr.heap[w.heap.size + 1 + 1]? = some (.cells #[.int .u64 (mw r.a 8), .int .u64 (mw r.b 8), .int .u64 (mw r.c 7), .int .u64 (mw r.d 0)] 71 (0, 0)) := h2
        obtain ⟨X, hX⟩ : ∃ X, X = r.c := ⟨_, rfl⟩
        obtain ⟨L, hL⟩ : ∃ L, L = mw r.c 7 := ⟨_, rfl⟩
        obtain ⟨R, hR⟩ : ∃ R, R = mw r.c 8 := ⟨_, rfl⟩
        have c0 : wr.cell? ⟨w.heap.size + 1 + 1, 2, none⟩ = some (.int .u64 L) := by rw [hL]; exact (cellAt h2' 2).trans rfl
        have x0 : wr.cell? ⟨w.heap.size, 2, none⟩ = some (.int .u64 X) := by rw [hX]; exact (cellAt h0 2).trans rfl
        have f0 := f2 2
        have e1 : IntKind.u64.wrap 18374686479671623680 = 18374686479671623680 := by rw [IntKind.wrap_u64]; rfl
        have hand : bits .and .u64 X 18374686479671623680 = X / 72057594037927936 % 256 * 72057594037927936 := by
          rw [hX]
          have := and_mask r.c 56 18374686479671623680 (by decide) hc0 hc1 (by decide)
          simpa using this
        have hor : bits .or .u64 L (X / 72057594037927936 % 256 * 72057594037927936) = R := by
          rw [hL, hR, hX]
          simp (disch := omega) only [u64_or56, mw]
          omega
        have hn := heap_setCell_same wr (w.heap.size + 1 + 1) 2 _ _ (.int .u64 R) h2'
        rw [hR] at hn
        have hw0 : IntKind.i64.wrap 2 = 2 := IntWalk.i64_in _ (by omega)
        have hw1 : IntKind.i64.wrap 7 = 7 := IntWalk.i64_in _ (by omega)
        have hw2 : IntKind.i64.wrap 56 = 56 := IntWalk.i64_in _ (by omega)
        have HN := Lib.hid hn
        have HR := Lib.hid hR
        clear hL hn hR hX h2 h2' f2
        go_wp2
        go_still_tail 15, (by kernel_rfl)
        change wpList _ _ _ _ _ wr.drew
        have c1 : wr.drew.cell? ⟨w.heap.size + 1 + 1, 2, none⟩ = some (.int .u64 L) := c0
        have f1 : wr.drew.frozen? ⟨w.heap.size + 1 + 1, 2, none⟩ = false := f0
        go_wp2
        have hsx : ∀ v : Value, Upd [] w (wr.setCell ⟨w.heap.size + 1 + 1, 2, none⟩ v).drew := fun v => (hU.setCell v (.inr (by show w.heap.size ≤ w.heap.size + 1 + 1; omega))).drew
        go_roundw
        case rel =>
          refine ⟨24, by omega, by go_num, ?_, ?_, ?_, hsx _⟩
          · show (wr.setCell _ _).heap[_]? = _
            rw [heap_setCell_other _ _ _ _ (by show ¬ w.heap.size = w.heap.size + 1 + 1; omega)]; exact h0
          · show (wr.setCell _ _).heap[_]? = _
            rw [heap_setCell_other _ _ _ _ (by show ¬ w.heap.size + 1 = w.heap.size + 1 + 1; omega)]; exact h1
          · show (wr.setCell _ _).heap[_]? = _
            rw [HR.out]; exact HN.out
        case measure => simp [intOf]; omega
      | 24, _ =>
        have h2' : wr.heap[w.heap.size + 1 + 1]? = some (.cells #[.int .u64 (mw r.a 8), .int .u64 (mw r.b 8), .int .u64 (mw r.c 8), .int .u64 (mw r.d 0)] 71 (0, 0)) := h2
        obtain ⟨X, hX⟩ : ∃ X, X = r.d := ⟨_, rfl⟩
        obtain ⟨L, hL⟩ : ∃ L, L = mw r.d 0 := ⟨_, rfl⟩
        obtain ⟨R, hR⟩ : ∃ R, R = mw r.d 1 := ⟨_, rfl⟩
        have c0 : wr.cell? ⟨w.heap.size + 1 + 1, 3, none⟩ = some (.int .u64 L) := by rw [hL]; exact (cellAt h2' 3).trans rfl
        have x0 : wr.cell? ⟨w.heap.size, 3, none⟩ = some (.int .u64 X) := by rw [hX]; exact (cellAt h0 3).trans rfl
        have f0 := f2 3
        have e1 : IntKind.u64.wrap 255 = 255 := by rw [IntKind.wrap_u64]; rfl
        have hand : bits .and .u64 X 255 = X % 256 := by
          rw [hX]
          have := and_mask r.d 0 255 (by decide) hd0 hd1 (by decide)
          simpa using this
        have hor : bits .or .u64 L (X % 256) = R := by
          rw [hL, hR, hX]
          exact or_zero64 _ (by omega)
        have hn := heap_setCell_same wr (w.heap.size + 1 + 1) 3 _ _ (.int .u64 R) h2'
        rw [hR] at hn
        have hw0 : IntKind.i64.wrap 3 = 3 := IntWalk.i64_in _ (by omega)
        have hw1 : IntKind.i64.wrap 0 = 0 := IntWalk.i64_in _ (by omega)
        have hw2 : IntKind.i64.wrap 0 = 0 := IntWalk.i64_in _ (by omega)
        have HN := Lib.hid hn
        have HR := Lib.hid hR
        clear hL hn hR hX h2 h2' f2
        go_wp2
        go_still_tail 15, (by kernel_rfl)
        change wpList _ _ _ _ _ wr.drew
        have c1 : wr.drew.cell? ⟨w.heap.size + 1 + 1, 3, none⟩ = some (.int .u64 L) := c0
        have f1 : wr.drew.frozen? ⟨w.heap.size + 1 + 1, 3, none⟩ = false := f0
        go_wp2
        have hsx : ∀ v : Value, Upd [] w (wr.setCell ⟨w.heap.size + 1 + 1, 3, none⟩ v).drew := fun v => (hU.setCell v (.inr (by show w.heap.size ≤ w.heap.size + 1 + 1; omega))).drew
        go_roundw
        case rel =>
          refine ⟨25, by omega, by go_num, ?_, ?_, ?_, hsx _⟩
          · show (wr.setCell _ _).heap[_]? = _
            rw [heap_setCell_other _ _ _ _ (by show ¬ w.heap.size = w.heap.size + 1 + 1; omega)]; exact h0
          · show (wr.setCell _ _).heap[_]? = _
            rw [heap_setCell_other _ _ _ _ (by show ¬ w.heap.size + 1 = w.heap.size + 1 + 1; omega)]; exact h1
          · show (wr.setCell _ _).heap[_]? = _
            rw [HR.out]; exact HN.out
        case measure => simp [intOf]; omega
      | 25, _ =>
        have h2' : wr.heap[w.heap.size + 1 + 1]? = some (.cells #[.int .u64 (mw r.a 8), .int .u64 (mw r.b 8), .int .u64 (mw r.c 8), .int .u64 (mw r.d 1)] 71 (0, 0)) := h2
        obtain ⟨X, hX⟩ : ∃ X, X = r.d := ⟨_, rfl⟩
        obtain ⟨L, hL⟩ : ∃ L, L = mw r.d 1 := ⟨_, rfl⟩
        obtain ⟨R, hR⟩ : ∃ R, R = mw r.d 2 := ⟨_, rfl⟩
        have c0 : wr.cell? ⟨w.heap.size + 1 + 1, 3, none⟩ = some (.int .u64 L) := by rw [hL]; exact (cellAt h2' 3).trans rfl
        have x0 : wr.cell? ⟨w.heap.size, 3, none⟩ = some (.int .u64 X) := by rw [hX]; exact (cellAt h0 3).trans rfl
        have f0 := f2 3
        have e1 : IntKind.u64.wrap 65280 = 65280 := by rw [IntKind.wrap_u64]; rfl
        have hand : bits .and .u64 X 65280 = X / 256 % 256 * 256 := by
          rw [hX]
          have := and_mask r.d 8 65280 (by decide) hd0 hd1 (by decide)
          simpa using this
        have hor : bits .or .u64 L (X / 256 % 256 * 256) = R := by
          rw [hL, hR, hX]
          simp (disch := omega) only [u64_or8, mw]
          omega
        have hn := heap_setCell_same wr (w.heap.size + 1 + 1) 3 _ _ (.int .u64 R) h2'
        rw [hR] at hn
        have hw0 : IntKind.i64.wrap 3 = 3 := IntWalk.i64_in _ (by omega)
        have hw1 : IntKind.i64.wrap 1 = 1 := IntWalk.i64_in _ (by omega)
        have hw2 : IntKind.i64.wrap 8 = 8 := IntWalk.i64_in _ (by omega)
        have HN := Lib.hid hn
        have HR := Lib.hid hR
        clear hL hn hR hX h2 h2' f2
        go_wp2
        go_still_tail 15, (by kernel_rfl)
        change wpList _ _ _ _ _ wr.drew
        have c1 : wr.drew.cell? ⟨w.heap.size + 1 + 1, 3, none⟩ = some (.int .u64 L) := c0
        have f1 : wr.drew.frozen? ⟨w.heap.size + 1 + 1, 3, none⟩ = false := f0
        go_wp2
        have hsx : ∀ v : Value, Upd [] w (wr.setCell ⟨w.heap.size + 1 + 1, 3, none⟩ v).drew := fun v => (hU.setCell v (.inr (by show w.heap.size ≤ w.heap.size + 1 + 1; omega))).drew
        go_roundw
        case rel =>
          refine ⟨26, by omega, by go_num, ?_, ?_, ?_, hsx _⟩
          · show (wr.setCell _ _).heap[_]? = _
            rw [heap_setCell_other _ _ _ _ (by show ¬ w.heap.size = w.heap.size + 1 + 1; omega)]; exact h0
          · show (wr.setCell _ _).heap[_]? = _
            rw [heap_setCell_other _ _ _ _ (by show ¬ w.heap.size + 1 = w.heap.size + 1 + 1; omega)]; exact h1
          · show (wr.setCell _ _).heap[_]? = _
            rw [HR.out]; exact HN.out
        case measure => simp [intOf]; omega
      | 26, _ =>
        have h2' : wr.heap[w.heap.size + 1 + 1]? = some (.cells #[.int .u64 (mw r.a 8), .int .u64 (mw r.b 8), .int .u64 (mw r.c 8), .int .u64 (mw r.d 2)] 71 (0, 0)) := h2
        obtain ⟨X, hX⟩ : ∃ X, X = r.d := ⟨_, rfl⟩
        obtain ⟨L, hL⟩ : ∃ L, L = mw r.d 2 := ⟨_, rfl⟩
        obtain ⟨R, hR⟩ : ∃ R, R = mw r.d 3 := ⟨_, rfl⟩
        have c0 : wr.cell? ⟨w.heap.size + 1 + 1, 3, none⟩ = some (.int .u64 L) := by rw [hL]; exact (cellAt h2' 3).trans rfl
        have x0 : wr.cell? ⟨w.heap.size, 3, none⟩ = some (.int .u64 X) := by rw [hX]; exact (cellAt h0 3).trans rfl
        have f0 := f2 3
        have e1 : IntKind.u64.wrap 16711680 = 16711680 := by rw [IntKind.wrap_u64]; rfl
        have hand : bits .and .u64 X 16711680 = X / 65536 % 256 * 65536 := by
          rw [hX]
          have := and_mask r.d 16 16711680 (by decide) hd0 hd1 (by decide)
          simpa using this
        have hor : bits .or .u64 L (X / 65536 % 256 * 65536) = R := by
          rw [hL, hR, hX]
          simp (disch := omega) only [u64_or16, mw]
          omega
        have hn := heap_setCell_same wr (w.heap.size + 1 + 1) 3 _ _ (.int .u64 R) h2'
        rw [hR] at hn
        have hw0 : IntKind.i64.wrap 3 = 3 := IntWalk.i64_in _ (by omega)
        have hw1 : IntKind.i64.wrap 2 = 2 := IntWalk.i64_in _ (by omega)
        have hw2 : IntKind.i64.wrap 16 = 16 := IntWalk.i64_in _ (by omega)
        have HN := Lib.hid hn
        have HR := Lib.hid hR
        clear hL hn hR hX h2 h2' f2
        go_wp2
        go_still_tail 15, (by kernel_rfl)
        change wpList _ _ _ _ _ wr.drew
        have c1 : wr.drew.cell? ⟨w.heap.size + 1 + 1, 3, none⟩ = some (.int .u64 L) := c0
        have f1 : wr.drew.frozen? ⟨w.heap.size + 1 + 1, 3, none⟩ = false := f0
        go_wp2
        have hsx : ∀ v : Value, Upd [] w (wr.setCell ⟨w.heap.size + 1 + 1, 3, none⟩ v).drew := fun v => (hU.setCell v (.inr (by show w.heap.size ≤ w.heap.size + 1 + 1; omega))).drew
        go_roundw
        case rel =>
          refine ⟨27, by omega, by go_num, ?_, ?_, ?_, hsx _⟩
          · show (wr.setCell _ _).heap[_]? = _
            rw [heap_setCell_other _ _ _ _ (by show ¬ w.heap.size = w.heap.size + 1 + 1; omega)]; exact h0
          · show (wr.setCell _ _).heap[_]? = _
            rw [heap_setCell_other _ _ _ _ (by show ¬ w.heap.size + 1 = w.heap.size + 1 + 1; omega)]; exact h1
          · show (wr.setCell _ _).heap[_]? = _
            rw [HR.out]; exact HN.out
        case measure => simp [intOf]; omega
      | 27, _ =>
        have h2' : wr.heap[w.heap.size + 1 + 1]? = some (.cells #[.int .u64 (mw r.a 8), .int .u64 (mw r.b 8), .int .u64 (mw r.c 8), .int .u64 (mw r.d 3)] 71 (0, 0)) := h2
        obtain ⟨X, hX⟩ : ∃ X, X = r.d := ⟨_, rfl⟩
        obtain ⟨L, hL⟩ : ∃ L, L = mw r.d 3 := ⟨_, rfl⟩
        obtain ⟨R, hR⟩ : ∃ R, R = mw r.d 4 := ⟨_, rfl⟩
        have c0 : wr.cell? ⟨w.heap.size + 1 + 1, 3, none⟩ = some (.int .u64 L) := by rw [hL]; exact (cellAt h2' 3).trans rfl
        have x0 : wr.cell? ⟨w.heap.size, 3, none⟩ = some (.int .u64 X) := by rw [hX]; exact (cellAt h0 3).trans rfl
        have f0 := f2 3
        have e1 : IntKind.u64.wrap 4278190080 = 4278190080 := by rw [IntKind.wrap_u64]; rfl
        have hand : bits .and .u64 X 4278190080 = X / 16777216 % 256 * 16777216 := by
          rw [hX]
          have := and_mask r.d 24 4278190080 (by decide) hd0 hd1 (by decide)
          simpa using this
        have hor : bits .or .u64 L (X / 16777216 % 256 * 16777216) = R := by
          rw [hL, hR, hX]
          simp (disch := omega) only [u64_or24, mw]
          omega
        have hn := heap_setCell_same wr (w.heap.size + 1 + 1) 3 _ _ (.int .u64 R) h2'
        rw [hR] at hn
        have hw0 : IntKind.i64.wrap 3 = 3 := IntWalk.i64_in _ (by omega)
        have hw1 : IntKind.i64.wrap 3 = 3 := IntWalk.i64_in _ (by omega)
        have hw2 : IntKind.i64.wrap 24 = 24 := IntWalk.i64_in _ (by omega)
        have HN := Lib.hid hn
        have HR := Lib.hid hR
        clear hL hn hR hX h2 h2' f2
        go_wp2
        go_still_tail 15, (by kernel_rfl)
        change wpList _ _ _ _ _ wr.drew
        have c1 : wr.drew.cell? ⟨w.heap.size + 1 + 1, 3, none⟩ = some (.int .u64 L) := c0
        have f1 : wr.drew.frozen? ⟨w.heap.size + 1 + 1, 3, none⟩ = false := f0
        go_wp2
        have hsx : ∀ v : Value, Upd [] w (wr.setCell ⟨w.heap.size + 1 + 1, 3, none⟩ v).drew := fun v => (hU.setCell v (.inr (by show w.heap.size ≤ w.heap.size + 1 + 1; omega))).drew
        go_roundw
        case rel =>
          refine ⟨28, by omega, by go_num, ?_, ?_, ?_, hsx _⟩
          · show (wr.setCell _ _).heap[_]? = _
            rw [heap_setCell_other _ _ _ _ (by show ¬ w.heap.size = w.heap.size + 1 + 1; omega)]; exact h0
          · show (wr.setCell _ _).heap[_]? = _
            rw [heap_setCell_other _ _ _ _ (by show ¬ w.heap.size + 1 = w.heap.size + 1 + 1; omega)]; exact h1
          · show (wr.setCell _ _).heap[_]? = _
            rw [HR.out]; exact HN.out
        case measure => simp [intOf]; omega
      | 28, _ =>
        have h2' : wr.heap[w.heap.size + 1 + 1]? = some (.cells #[.int .u64 (mw r.a 8), .int .u64 (mw r.b 8), .int .u64 (mw r.c 8), .int .u64 (mw r.d 4)] 71 (0, 0)) := h2
        obtain ⟨X, hX⟩ : ∃ X, X = r.d := ⟨_, rfl⟩
        obtain ⟨L, hL⟩ : ∃ L, L = mw r.d 4 := ⟨_, rfl⟩
        obtain ⟨R, hR⟩ : ∃ R, R = mw r.d 5 := ⟨_, rfl⟩
        have c0 : wr.cell? ⟨w.heap.size + 1 + 1, 3, none⟩ = some (.int .u64 L) := by rw [hL]; exact (cellAt h2' 3).trans rfl
        have x0 : wr.cell? ⟨w.heap.size, 3, none⟩ = some (.int .u64 X) := by rw [hX]; exact (cellAt h0 3).trans rfl
        have f0 := f2 3
        have e1 : IntKind.u64.wrap 1095216660480 = 1095216660480 := by rw [IntKind.wrap_u64]; rfl
        have hand : bits .and .u64 X 1095216660480 = X / 4294967296 % 256 * 4294967296 := by
          rw [hX]
          have := and_mask r.d 32 1095216660480 (by decide) hd0 hd1 (by decide)
          simpa using this
        have hor : bits .or .u64 L (X / 4294967296 % 256 * 4294967296) = R := by
          rw [hL, hR, hX]
          simp (disch := omega) only [u64_or32, mw]
          omega
        have hn := heap_setCell_same wr (w.heap.size + 1 + 1) 3 _ _ (.int .u64 R) h2'
        rw [hR] at hn
        have hw0 : IntKind.i64.wrap 3 = 3 := IntWalk.i64_in _ (by omega)
        have hw1 : IntKind.i64.wrap 4 = 4 := IntWalk.i64_in _ (by omega)
        have hw2 : IntKind.i64.wrap 32 = 32 := IntWalk.i64_in _ (by omega)
        have HN := Lib.hid hn
        have HR := Lib.hid hR
        clear hL hn hR hX h2 h2' f2
        go_wp2
        go_still_tail 15, (by kernel_rfl)
        change wpList _ _ _ _ _ wr.drew
        have c1 : wr.drew.cell? ⟨w.heap.size + 1 + 1, 3, none⟩ = some (.int .u64 L) := c0
        have f1 : wr.drew.frozen? ⟨w.heap.size + 1 + 1, 3, none⟩ = false := f0
        go_wp2
        have hsx : ∀ v : Value, Upd [] w (wr.setCell ⟨w.heap.size + 1 + 1, 3, none⟩ v).drew := fun v => (hU.setCell v (.inr (by show w.heap.size ≤ w.heap.size + 1 + 1; omega))).drew
        go_roundw
        case rel =>
          refine ⟨29, by omega, by go_num, ?_, ?_, ?_, hsx _⟩
          · show (wr.setCell _ _).heap[_]? = _
            rw [heap_setCell_other _ _ _ _ (by show ¬ w.heap.size = w.heap.size + 1 + 1; omega)]; exact h0
          · show (wr.setCell _ _).heap[_]? = _
            rw [heap_setCell_other _ _ _ _ (by show ¬ w.heap.size + 1 = w.heap.size + 1 + 1; omega)]; exact h1
          · show (wr.setCell _ _).heap[_]? = _
            rw [HR.out]; exact HN.out
        case measure => simp [intOf]; omega
      | 29, _ =>
        have h2' : wr.heap[w.heap.size + 1 + 1]? = some (.cells #[.int .u64 (mw r.a 8), .int .u64 (mw r.b 8), .int .u64 (mw r.c 8), .int .u64 (mw r.d 5)] 71 (0, 0)) := h2
        obtain ⟨X, hX⟩ : ∃ X, X = r.d := ⟨_, rfl⟩
        obtain ⟨L, hL⟩ : ∃ L, L = mw r.d 5 := ⟨_, rfl⟩
        obtain ⟨R, hR⟩ : ∃ R, R = mw r.d 6 := ⟨_, rfl⟩
        have c0 : wr.cell? ⟨w.heap.size + 1 + 1, 3, none⟩ = some (.int .u64 L) := by rw [hL]; exact (cellAt h2' 3).trans rfl
        have x0 : wr.cell? ⟨w.heap.size, 3, none⟩ = some (.int .u64 X) := by rw [hX]; exact (cellAt h0 3).trans rfl
        have f0 := f2 3
        have e1 : IntKind.u64.wrap 280375465082880 = 280375465082880 := by rw [IntKind.wrap_u64]; rfl
        have hand : bits .and .u64 X 280375465082880 = X / 1099511627776 % 256 * 1099511627776 := by
          rw [hX]
          have := and_mask r.d 40 280375465082880 (by decide) hd0 hd1 (by decide)
          simpa using this
        have hor : bits .or .u64 L (X / 1099511627776 % 256 * 1099511627776) = R := by
          rw [hL, hR, hX]
          simp (disch := omega) only [u64_or40, mw]
          omega
        have hn := heap_setCell_same wr (w.heap.size + 1 + 1) 3 _ _ (.int .u64 R) h2'
        rw [hR] at hn
        have hw0 : IntKind.i64.wrap 3 = 3 := IntWalk.i64_in _ (by omega)
        have hw1 : IntKind.i64.wrap 5 = 5 := IntWalk.i64_in _ (by omega)
        have hw2 : IntKind.i64.wrap 40 = 40 := IntWalk.i64_in _ (by omega)
        have HN := Lib.hid hn
        have HR := Lib.hid hR
        clear hL hn hR hX h2 h2' f2
        go_wp2
        go_still_tail 15, (by kernel_rfl)
        change wpList _ _ _ _ _ wr.drew
        have c1 : wr.drew.cell? ⟨w.heap.size + 1 + 1, 3, none⟩ = some (.int .u64 L) := c0
        have f1 : wr.drew.frozen? ⟨w.heap.size + 1 + 1, 3, none⟩ = false := f0
        go_wp2
        have hsx : ∀ v : Value, Upd [] w (wr.setCell ⟨w.heap.size + 1 + 1, 3, none⟩ v).drew := fun v => (hU.setCell v (.inr (by show w.heap.size ≤ w.heap.size + 1 + 1; omega))).drew
        go_roundw
        case rel =>
          refine ⟨30, by omega, by go_num, ?_, ?_, ?_, hsx _⟩
          · show (wr.setCell _ _).heap[_]? = _
            rw [heap_setCell_other _ _ _ _ (by show ¬ w.heap.size = w.heap.size + 1 + 1; omega)]; exact h0
          · show (wr.setCell _ _).heap[_]? = _
            rw [heap_setCell_other _ _ _ _ (by show ¬ w.heap.size + 1 = w.heap.size + 1 + 1; omega)]; exact h1
          · show (wr.setCell _ _).heap[_]? = _
            rw [HR.out]; exact HN.out
        case measure => simp [intOf]; omega
      | 30, _ =>
        have h2' : wr.heap[w.heap.size + 1 + 1]? = some (.cells #[.int .u64 (mw r.a 8), .int .u64 (mw r.b 8), .int .u64 (mw r.c 8), .int .u64 (mw r.d 6)] 71 (0, 0)) := h2
        obtain ⟨X, hX⟩ : ∃ X, X = r.d := ⟨_, rfl⟩
        obtain ⟨L, hL⟩ : ∃ L, L = mw r.d 6 := ⟨_, rfl⟩
        obtain ⟨R, hR⟩ : ∃ R, R = mw r.d 7 := ⟨_, rfl⟩
        have c0 : wr.cell? ⟨w.heap.size + 1 + 1, 3, none⟩ = some (.int .u64 L) := by rw [hL]; exact (cellAt h2' 3).trans rfl
        have x0 : wr.cell? ⟨w.heap.size, 3, none⟩ = some (.int .u64 X) := by rw [hX]; exact (cellAt h0 3).trans rfl
        have f0 := f2 3
        have e1 : IntKind.u64.wrap 71776119061217280 = 71776119061217280 := by rw [IntKind.wrap_u64]; rfl
        have hand : bits .and .u64 X 71776119061217280 = X / 281474976710656 % 256 * 281474976710656 := by
          rw [hX]
          have := and_mask r.d 48 71776119061217280 (by decide) hd0 hd1 (by decide)
          simpa using this
        have hor : bits .or .u64 L (X / 281474976710656 % 256 * 281474976710656) = R := by
          rw [hL, hR, hX]
          simp (disch := omega) only [u64_or48, mw]
          omega
        have hn := heap_setCell_same wr (w.heap.size + 1 + 1) 3 _ _ (.int .u64 R) h2'
        rw [hR] at hn
        have hw0 : IntKind.i64.wrap 3 = 3 := IntWalk.i64_in _ (by omega)
        have hw1 : IntKind.i64.wrap 6 = 6 := IntWalk.i64_in _ (by omega)
        have hw2 : IntKind.i64.wrap 48 = 48 := IntWalk.i64_in _ (by omega)
        have HN := Lib.hid hn
        have HR := Lib.hid hR
        clear hL hn hR hX h2 h2' f2
        go_wp2
        go_still_tail 15, (by kernel_rfl)
        change wpList _ _ _ _ _ wr.drew
        have c1 : wr.drew.cell? ⟨w.heap.size + 1 + 1, 3, none⟩ = some (.int .u64 L) := c0
        have f1 : wr.drew.frozen? ⟨w.heap.size + 1 + 1, 3, none⟩ = false := f0
        go_wp2
        have hsx : ∀ v : Value, Upd [] w (wr.setCell ⟨w.heap.size + 1 + 1, 3, none⟩ v).drew := fun v => (hU.setCell v (.inr (by show w.heap.size ≤ w.heap.size + 1 + 1; omega))).drew
        go_roundw
        case rel =>
          refine ⟨31, by omega, by go_num, ?_, ?_, ?_, hsx _⟩
          · show (wr.setCell _ _).heap[_]? = _
            rw [heap_setCell_other _ _ _ _ (by show ¬ w.heap.size = w.heap.size + 1 + 1; omega)]; exact h0
          · show (wr.setCell _ _).heap[_]? = _
            rw [heap_setCell_other _ _ _ _ (by show ¬ w.heap.size + 1 = w.heap.size + 1 + 1; omega)]; exact h1
          · show (wr.setCell _ _).heap[_]? = _
            rw [HR.out]; exact HN.out
        case measure => simp [intOf]; omega
      | 31, _ =>
        have h2' : wr.heap[w.heap.size + 1 + 1]? = some (.cells #[.int .u64 (mw r.a 8), .int .u64 (mw r.b 8), .int .u64 (mw r.c 8), .int .u64 (mw r.d 7)] 71 (0, 0)) := h2
        obtain ⟨X, hX⟩ : ∃ X, X = r.d := ⟨_, rfl⟩
        obtain ⟨L, hL⟩ : ∃ L, L = mw r.d 7 := ⟨_, rfl⟩
        obtain ⟨R, hR⟩ : ∃ R, R = mw r.d 8 := ⟨_, rfl⟩
        have c0 : wr.cell? ⟨w.heap.size + 1 + 1, 3, none⟩ = some (.int .u64 L) := by rw [hL]; exact (cellAt h2' 3).trans rfl
        have x0 : wr.cell? ⟨w.heap.size, 3, none⟩ = some (.int .u64 X) := by rw [hX]; exact (cellAt h0 3).trans rfl
        have f0 := f2 3
        have e1 : IntKind.u64.wrap 18374686479671623680 = 18374686479671623680 := by rw [IntKind.wrap_u64]; rfl
        have hand : bits .and .u64 X 18374686479671623680 = X / 72057594037927936 % 256 * 72057594037927936 := by
          rw [hX]
          have := and_mask r.d 56 18374686479671623680 (by decide) hd0 hd1 (by decide)
          simpa using this
        have hor : bits .or .u64 L (X / 72057594037927936 % 256 * 72057594037927936) = R := by
          rw [hL, hR, hX]
          simp (disch := omega) only [u64_or56, mw]
          omega
        have hn := heap_setCell_same wr (w.heap.size + 1 + 1) 3 _ _ (.int .u64 R) h2'
        rw [hR] at hn
        have hw0 : IntKind.i64.wrap 3 = 3 := IntWalk.i64_in _ (by omega)
        have hw1 : IntKind.i64.wrap 7 = 7 := IntWalk.i64_in _ (by omega)
        have hw2 : IntKind.i64.wrap 56 = 56 := IntWalk.i64_in _ (by omega)
        have HN := Lib.hid hn
        have HR := Lib.hid hR
        clear hL hn hR hX h2 h2' f2
        go_wp2
        go_still_tail 15, (by kernel_rfl)
        change wpList _ _ _ _ _ wr.drew
        have c1 : wr.drew.cell? ⟨w.heap.size + 1 + 1, 3, none⟩ = some (.int .u64 L) := c0
        have f1 : wr.drew.frozen? ⟨w.heap.size + 1 + 1, 3, none⟩ = false := f0
        go_wp2
        have hsx : ∀ v : Value, Upd [] w (wr.setCell ⟨w.heap.size + 1 + 1, 3, none⟩ v).drew := fun v => (hU.setCell v (.inr (by show w.heap.size ≤ w.heap.size + 1 + 1; omega))).drew
        go_roundw
        case rel =>
          refine ⟨32, by omega, by go_num, ?_, ?_, ?_, hsx _⟩
          · show (wr.setCell _ _).heap[_]? = _
            rw [heap_setCell_other _ _ _ _ (by show ¬ w.heap.size = w.heap.size + 1 + 1; omega)]; exact h0
          · show (wr.setCell _ _).heap[_]? = _
            rw [heap_setCell_other _ _ _ _ (by show ¬ w.heap.size + 1 = w.heap.size + 1 + 1; omega)]; exact h1
          · show (wr.setCell _ _).heap[_]? = _
            rw [HR.out]; exact HN.out
        case measure => simp [intOf]; omega
      | n + 32, h => exact absurd h (by omega)
    · have hk0 : ¬ ((j : Int) < W) := by omega
      obtain rfl : j = W := by omega
      have r2 := rangeAt_blk (cs := (mrow r j).cells) h2
      clear hwd hwd3 b0 b1 k3
      go_wp2_with (first
        | ((with_reducible show wpList _ _ _ _ _ _); refine wpList_load_mid rfl 71 (.tmp 5) rfl (w.heap.size + 1 + 1) 0 rfl (mrow r j).cells _ r2 Tryz.underlying71 rfl (by kernel_rfl) ?_)
        | ((with_reducible show wpList _ _ _ _ _ _); refine wpList_store_blk rfl 71 (.tmp 4) (.tmp 45) rfl (b := w.heap.size + 1) rfl h1 (cs := (mrow r j).cells) rfl rfl (by kernel_rfl) (by simp [R4.cells, Value.oneCell']) ?_; intro w4 hb4 hu4; simp only [Act.put]))
      refine bodyPost_ret (v := (mrow r j).agg) (results_cell1 Tryz.results43 (b := w.heap.size + 1) rfl (run_loadVar_mid _ (w.heap.size + 1) 0 71 (mrow r j).cells _ (rangeAt_blk hb4) Tryz.underlying71 rfl (by kernel_rfl))) rfl ⟨rfl, ?_⟩
      exact hU.trans hu4 (fun y hy => by simp at hy; exact .inr (by omega))
end Go.Proofs.YteimeeepcfcfcaaGreatDoor
