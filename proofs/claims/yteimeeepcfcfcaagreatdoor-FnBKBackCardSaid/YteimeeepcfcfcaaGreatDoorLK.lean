/- spec.NCRow: what each kind keeps of a row. -/
import Derived.Test.YteimeeepcfcfcaaGreatDoorKZ
namespace Go.Proofs.YteimeeepcfcfcaaGreatDoor
set_option maxRecDepth 100000
set_option maxHeartbeats 2000000
set_option linter.unusedVariables false
set_option linter.unusedSimpArgs false
open Go Go.RowKit
theorem and_ffff (x : Int) (h0 : 0 ≤ x) (h1 : x < 4294967296) : bits .and .u32 x 65535 = x % 65536 := by
  obtain ⟨y, rfl⟩ := Int.eq_ofNat_of_zero_le h0
  rw [u32_and _ 65535 h0 h1 (by decide) (by decide)]
  have := Nat.and_two_pow_sub_one_eq_mod y 16
  simp only [Int.toNat_natCast]
  have h2 : (65535 : Int).toNat = 2 ^ 16 - 1 := rfl
  rw [h2, this]
  omega
theorem bf_parts (q r l : Int) (hq : 0 ≤ q ∧ q < 65536) (hr : 0 ≤ r ∧ r < 65536) (hl : 0 ≤ l ∧ l < 2) (h : 65536 ≤ r + 32767 + l) : (65536 * q + r + (32767 + l)) % 4294967296 / 65536 = (q + 1) % 65536 := by
  by_cases hq1 : q = 65535
  · subst hq1
    have : (65536 * (65535 : Int) + r + (32767 + l)) % 4294967296 = r + 32767 + l - 65536 := by omega
    rw [this]
    omega
  · have : (65536 * q + r + (32767 + l)) % 4294967296 = 65536 * q + r + (32767 + l) := by omega
    rw [this]
    omega
theorem bf_parts' (q r l : Int) (hq : 0 ≤ q ∧ q < 65536) (hr : 0 ≤ r ∧ r < 65536) (hl : 0 ≤ l ∧ l < 2) (h : ¬ 65536 ≤ r + 32767 + l) : (65536 * q + r + (32767 + l)) % 4294967296 / 65536 = q % 65536 := by
  have : (65536 * q + r + (32767 + l)) % 4294967296 = 65536 * q + r + (32767 + l) := by omega
  rw [this]
  omega
theorem bfR_up (x : Int) (h0 : 0 ≤ x) (h1 : x < 4294967296) (h : 32768 < x % 65536 ∨ (x % 65536 = 32768 ∧ x / 65536 % 2 = 1)) : bfR x.toNat = (x / 65536 + 1) % 65536 := by
  obtain ⟨y, rfl⟩ := Int.eq_ofNat_of_zero_le h0
  have hp := bf_parts ((y : Int) / 65536) (y % 65536) ((y : Int) / 65536 % 2) (by omega) (by omega) (by omega) (by omega)
  have hy : 65536 * ((y : Int) / 65536) + y % 65536 = y := by omega
  rw [hy] at hp
  unfold bfR
  simp only [Int.toNat_natCast]
  exact hp
theorem bfR_down (x : Int) (h0 : 0 ≤ x) (h1 : x < 4294967296) (h : ¬ 32768 < x % 65536) (h' : ¬ (x % 65536 = 32768 ∧ x / 65536 % 2 = 1)) : bfR x.toNat = (x / 65536) % 65536 := by
  obtain ⟨y, rfl⟩ := Int.eq_ofNat_of_zero_le h0
  have hp := bf_parts' ((y : Int) / 65536) (y % 65536) ((y : Int) / 65536 % 2) (by omega) (by omega) (by omega) (by omega)
  have hy : 65536 * ((y : Int) / 65536) + y % 65536 = y := by omega
  rw [hy] at hp
  unfold bfR
  simp only [Int.toNat_natCast]
  exact hp
theorem bfRound (x : Int) (h0 : 0 ≤ x) (h1 : x < 4294967296) (w : World) : Calls Tryz.prog 85 #[.int .u32 x] w fun e w' => e = .returned (.int .u16 (bfR x.toNat)) ∧ w' = w := by
  have ha := and_ffff x h0 h1
  have hm : (x / 65536).tmod 2 = x / 65536 % 2 := Int.tmod_eq_emod_of_nonneg (by omega)
  have hw1 : IntKind.u32.wrap (x / 65536 + 1) = x / 65536 + 1 := by rw [IntKind.wrap_u32]; omega
  have hm1 : (x / 65536 + 1) % 4294967296 = x / 65536 + 1 := by omega
  have hm2 : x / 65536 % 2 % 4294967296 = x / 65536 % 2 := by omega
  have hm3 : x / 65536 % 4294967296 = x / 65536 := by omega
  by_cases c1 : 32768 < x % 65536
  · have hb : bfR x.toNat = (x / 65536 + 1) % 65536 := bfR_up x h0 h1 (by omega)
    go_enter Tryz.func85, Tryz.ntmps85
    go_wp2
    go_ret
    exact ⟨by first | (rw [hb]; first | rfl | (simp [IntKind.wrap_u16]; done) | (simp [IntKind.wrap_u16]; omega)) | (simp [IntKind.wrap_u16]; done) | (simp [IntKind.wrap_u16]; omega), rfl⟩
  · by_cases c2 : x % 65536 = 32768
    · by_cases c3 : x / 65536 % 2 = 1
      · have hb : bfR x.toNat = (x / 65536 + 1) % 65536 := bfR_up x h0 h1 (by omega)
        go_enter Tryz.func85, Tryz.ntmps85
        go_wp2
        go_ret
        exact ⟨by first | (rw [hb]; first | rfl | (simp [IntKind.wrap_u16]; done) | (simp [IntKind.wrap_u16]; omega)) | (simp [IntKind.wrap_u16]; done) | (simp [IntKind.wrap_u16]; omega), rfl⟩
      · have hb : bfR x.toNat = (x / 65536) % 65536 := bfR_down x h0 h1 (by omega) (by omega)
        go_enter Tryz.func85, Tryz.ntmps85
        go_wp2
        go_ret
        exact ⟨by first | (rw [hb]; first | rfl | (simp [IntKind.wrap_u16]; done) | (simp [IntKind.wrap_u16]; omega)) | (simp [IntKind.wrap_u16]; done) | (simp [IntKind.wrap_u16]; omega), rfl⟩
    · have hb : bfR x.toNat = (x / 65536) % 65536 := bfR_down x h0 h1 (by omega) (by omega)
      have c2' : (x % 65536 == 32768) = false := beq_eq_false_iff_ne.2 c2
      go_enter Tryz.func85, Tryz.ntmps85
      go_wp2
      go_ret
      exact ⟨by first | (rw [hb]; first | rfl | (simp [IntKind.wrap_u16]; done) | (simp [IntKind.wrap_u16]; omega)) | (simp [IntKind.wrap_u16]; done) | (simp [IntKind.wrap_u16]; omega), rfl⟩
theorem ncRow15 (r : R4) (w : World) : Calls Tryz.prog 43 #[.int .i64 15, r.agg] w fun e w' => e = .returned (kept_bf r).agg ∧ Upd [] w w' := by
  obtain ⟨z, hz⟩ : ∃ z, z = IntKind.u32.wrap r.a := ⟨_, rfl⟩
  have hz0 : 0 ≤ z ∧ z < 4294967296 := by rw [hz, IntKind.wrap_u32]; omega
  obtain ⟨y, hy⟩ : ∃ y, y = bfR z.toNat := ⟨_, rfl⟩
  have hyr := bfR_range z.toNat
  rw [← hy] at hyr
  have hb := bfRound z hz0.1 hz0.2
  rw [← hy] at hb
  have hk : (kept_bf r).agg = .agg #[.int .u64 (y * 65536), .int .u64 0, .int .u64 0, .int .u64 0] := by
    have : ((y * 65536).toNat : Int) = y * 65536 := by omega
    show (one4 (((bfR (IntKind.u32.wrap r.a).toNat * 65536).toNat : Nat) : Int)).agg = _
    rw [← hz, ← hy, this]
    rfl
  rw [hk]
  have w1 : IntKind.u64.wrap y = y := by rw [IntKind.wrap_u64]; omega
  have w2 : IntKind.u64.wrap (y * 65536) = y * 65536 := by rw [IntKind.wrap_u64]; omega
  have w3 : y % 18446744073709551616 = y := by omega
  have w4 : y * 65536 % 18446744073709551616 = y * 65536 := by omega
  have hz1 : IntKind.u32.wrap r.a = z := hz.symm
  have hz2 : r.a % 4294967296 = z := by rw [hz, IntKind.wrap_u32]
  obtain ⟨k1, u1, s1⟩ := alloc_facts w (Obj.cells #[.int .u64 r.a, .int .u64 r.b, .int .u64 r.c, .int .u64 r.d] 71)
  obtain ⟨k2, u2, s2⟩ := alloc_facts (w.alloc (Obj.cells #[.int .u64 r.a, .int .u64 r.b, .int .u64 r.c, .int .u64 r.d] 71)) (Obj.cells #[.int .u64 0, .int .u64 0, .int .u64 0, .int .u64 0] 71)
  have u12 := u1.trans u2 (fun _ h => .inl h)
  rw [s1] at k2
  have HZ := Lib.hid hz
  have HY := Lib.hid hy
  clear hz hy hk
  simp only [R4.agg]
  go_enter Tryz.func43, Tryz.ntmps43
  go_wp2_with (first
    | (go_at_call 85; (refine (hb _).mono ?_); rintro e w2 ⟨rfl, rfl⟩)
    | ((with_reducible show wpList _ _ _ _ _ _); refine wpList_store_blk rfl 71 (.tmp 4) (.tmp 16) rfl (b := w.heap.size + 1) rfl k2 (cs := [.int .u64 (y * 65536), .int .u64 0, .int .u64 0, .int .u64 0]) rfl rfl (by kernel_rfl) (by simp [Value.oneCell']) ?_; intro w4 hb4 hu4; simp only [Act.put]))
  refine bodyPost_ret (v := .agg #[.int .u64 (y * 65536), .int .u64 0, .int .u64 0, .int .u64 0]) (results_cell1 Tryz.results43 (b := w.heap.size + 1) rfl (run_loadVar_mid _ (w.heap.size + 1) 0 71 [.int .u64 (y * 65536), .int .u64 0, .int .u64 0, .int .u64 0] _ (rangeAt_blk hb4) Tryz.underlying71 rfl (by kernel_rfl))) rfl ⟨rfl, ?_⟩
  exact u12.trans hu4 (fun y hy => by simp at hy; exact .inr (by omega))
theorem ncRow16z (b c d : Int) (w : World) : Calls Tryz.prog 43 #[.int .i64 16, .agg #[.int .u64 0, .int .u64 b, .int .u64 c, .int .u64 d]] w fun e w' => e = .returned (.agg #[.int .u64 0, .int .u64 0, .int .u64 0, .int .u64 0]) ∧ Upd [] w w' := by
  obtain ⟨k1, u1, s1⟩ := alloc_facts w (Obj.cells #[.int .u64 0, .int .u64 b, .int .u64 c, .int .u64 d] 71)
  obtain ⟨k2, u2, s2⟩ := alloc_facts (w.alloc (Obj.cells #[.int .u64 0, .int .u64 b, .int .u64 c, .int .u64 d] 71)) (Obj.cells #[.int .u64 0, .int .u64 0, .int .u64 0, .int .u64 0] 71)
  have u12 := u1.trans u2 (fun _ h => .inl h)
  rw [s1] at k2
  go_enter Tryz.func43, Tryz.ntmps43
  go_wp2_with ((with_reducible show wpList _ _ _ _ _ _); refine wpList_store_blk rfl 71 (.tmp 4) (.tmp 23) rfl (b := w.heap.size + 1) rfl k2 (cs := [.int .u64 0, .int .u64 0, .int .u64 0, .int .u64 0]) rfl rfl (by kernel_rfl) (by simp [Value.oneCell']) ?_; intro w4 hb4 hu4; simp only [Act.put])
  refine bodyPost_ret (v := .agg #[.int .u64 0, .int .u64 0, .int .u64 0, .int .u64 0]) (results_cell1 Tryz.results43 (b := w.heap.size + 1) rfl (run_loadVar_mid _ (w.heap.size + 1) 0 71 [.int .u64 0, .int .u64 0, .int .u64 0, .int .u64 0] _ (rangeAt_blk hb4) Tryz.underlying71 rfl (by kernel_rfl))) rfl ⟨rfl, ?_⟩
  exact u12.trans hu4 (fun y hy => by simp at hy; exact .inr (by omega))
theorem ncRow16 (r : R4) (w : World) : Calls Tryz.prog 43 #[.int .i64 16, r.agg] w fun e w' => e = .returned (kept_bool r).agg ∧ Upd [] w w' := by
  obtain ⟨k1, u1, s1⟩ := alloc_facts w (Obj.cells #[.int .u64 r.a, .int .u64 r.b, .int .u64 r.c, .int .u64 r.d] 71)
  obtain ⟨k2, u2, s2⟩ := alloc_facts (w.alloc (Obj.cells #[.int .u64 r.a, .int .u64 r.b, .int .u64 r.c, .int .u64 r.d] 71)) (Obj.cells #[.int .u64 0, .int .u64 0, .int .u64 0, .int .u64 0] 71)
  have u12 := u1.trans u2 (fun _ h => .inl h)
  rw [s1] at k2
  by_cases h0 : r.a = 0
  · have h0' : (r.a == 0) = true := beq_iff_eq.2 h0
    have hk : (kept_bool r).agg = .agg #[.int .u64 0, .int .u64 0, .int .u64 0, .int .u64 0] := by
      show (one4 (if (!(r.a == 0)) then 1 else 0)).agg = _
      rw [h0']; rfl
    rw [hk]
    clear k1 k2 u1 u2 u12 s1 s2 h0' hk
    obtain ⟨a, b, c, d⟩ := r
    simp only at h0
    subst h0
    exact ncRow16z b c d w
  · have h0' : (r.a == 0) = false := beq_eq_false_iff_ne.2 h0
    have hk : (kept_bool r).agg = .agg #[.int .u64 1, .int .u64 0, .int .u64 0, .int .u64 0] := by
      show (one4 (if (!(r.a == 0)) then 1 else 0)).agg = _
      rw [h0']; rfl
    rw [hk]
    clear hk
    simp only [R4.agg]
    go_enter Tryz.func43, Tryz.ntmps43
    go_wp2_with ((with_reducible show wpList _ _ _ _ _ _); refine wpList_store_blk rfl 71 (.tmp 4) (.tmp 22) rfl (b := w.heap.size + 1) rfl k2 (cs := [.int .u64 1, .int .u64 0, .int .u64 0, .int .u64 0]) rfl rfl (by kernel_rfl) (by simp [Value.oneCell']) ?_; intro w4 hb4 hu4; simp only [Act.put])
    refine bodyPost_ret (v := .agg #[.int .u64 1, .int .u64 0, .int .u64 0, .int .u64 0]) (results_cell1 Tryz.results43 (b := w.heap.size + 1) rfl (run_loadVar_mid _ (w.heap.size + 1) 0 71 [.int .u64 1, .int .u64 0, .int .u64 0, .int .u64 0] _ (rangeAt_blk hb4) Tryz.underlying71 rfl (by kernel_rfl))) rfl ⟨rfl, ?_⟩
    exact u12.trans hu4 (fun y hy => by simp at hy; exact .inr (by omega))
theorem r4 {a b c d a' b' c' d' : Int} (h1 : a = a') (h2 : b = b') (h3 : c = c') (h4 : d = d') : (⟨a, b, c, d⟩ : R4) = ⟨a', b', c', d'⟩ := by subst h1 h2 h3 h4; rfl
theorem mw8 {x : Int} (h : 0 ≤ x ∧ x < 18446744073709551616) : x = mw x 8 := by show x = x % 18446744073709551616; omega
theorem keptm_i8 (r : R4) (hr : Ok4 r) : kept_i8 r = mrow r 1 := r4 (by show (IntKind.i8.wrap r.a) % 256 = r.a % 256 <;> rw [wrap_i8] <;> omega) rfl rfl rfl
theorem keptm_i16 (r : R4) (hr : Ok4 r) : kept_i16 r = mrow r 2 := r4 (by show (IntKind.i16.wrap r.a) % 65536 = r.a % 65536 <;> rw [wrap_i16] <;> omega) rfl rfl rfl
theorem keptm_i32 (r : R4) (hr : Ok4 r) : kept_i32 r = mrow r 4 := r4 (by show (IntKind.i32.wrap r.a) % 4294967296 = r.a % 4294967296 <;> rw [IntKind.wrap_i32] <;> omega) rfl rfl rfl
theorem keptm_i64 (r : R4) (hr : Ok4 r) : kept_i64 r = mrow r 8 := r4 (by show (IntKind.i64.wrap r.a) % 18446744073709551616 = r.a % 18446744073709551616 <;> rw [IntKind.wrap_i64] <;> omega) rfl rfl rfl
theorem keptm_i128 (r : R4) (hr : Ok4 r) : kept_i128 r = mrow r 16 := r4 (mw8 hr.1) (mw8 hr.2.1) rfl rfl
theorem keptm_i256 (r : R4) (hr : Ok4 r) : kept_i256 r = mrow r 32 := r4 (mw8 hr.1) (mw8 hr.2.1) (mw8 hr.2.2.1) (mw8 hr.2.2.2)
theorem keptm_u8 (r : R4) (hr : Ok4 r) : kept_u8 r = mrow r 1 := r4 (by show IntKind.u8.wrap r.a = r.a % 256 <;> rw [wrap_u8]) rfl rfl rfl
theorem keptm_u16 (r : R4) (hr : Ok4 r) : kept_u16 r = mrow r 2 := r4 (by show IntKind.u16.wrap r.a = r.a % 65536 <;> rw [IntKind.wrap_u16]) rfl rfl rfl
theorem keptm_u32 (r : R4) (hr : Ok4 r) : kept_u32 r = mrow r 4 := r4 (by show IntKind.u32.wrap r.a = r.a % 4294967296 <;> rw [IntKind.wrap_u32]) rfl rfl rfl
theorem keptm_u64 (r : R4) (hr : Ok4 r) : kept_u64 r = mrow r 8 := r4 (mw8 hr.1) rfl rfl rfl
theorem keptm_u128 (r : R4) (hr : Ok4 r) : kept_u128 r = mrow r 16 := r4 (mw8 hr.1) (mw8 hr.2.1) rfl rfl
theorem keptm_u256 (r : R4) (hr : Ok4 r) : kept_u256 r = mrow r 32 := r4 (mw8 hr.1) (mw8 hr.2.1) (mw8 hr.2.2.1) (mw8 hr.2.2.2)
theorem keptm_f32 (r : R4) (hr : Ok4 r) : kept_f32 r = mrow r 4 := r4 (by show (((IntKind.u32.wrap r.a).toNat : Nat) : Int) = r.a % 4294967296 <;> rw [IntKind.wrap_u32] <;> omega) rfl rfl rfl
theorem keptm_f64 (r : R4) (hr : Ok4 r) : kept_f64 r = mrow r 8 := r4 (by show ((r.a.toNat : Nat) : Int) = r.a % 18446744073709551616 <;> have := hr.1 <;> omega) rfl rfl rfl
theorem keptm_ipv4 (r : R4) (hr : Ok4 r) : kept_ipv4 r = mrow r 4 := r4 (by show IntKind.u32.wrap r.a = r.a % 4294967296 <;> rw [IntKind.wrap_u32]) rfl rfl rfl
theorem keptm_ip (r : R4) (hr : Ok4 r) : kept_ip r = mrow r 16 := r4 (mw8 hr.1) (mw8 hr.2.1) rfl rfl
theorem ncRow (k : Int) (h1 : 1 ≤ k) (h2 : k ≤ 18) (r : R4) (hr : Ok4 r) (w : World) (hw : Wds w) : Calls Tryz.prog 43 #[.int .i64 k, r.agg] w fun e w' => e = .returned ((kd k).kept r).agg ∧ Upd [] w w' := by
  have h : k = 1 ∨ k = 2 ∨ k = 3 ∨ k = 4 ∨ k = 5 ∨ k = 6 ∨ k = 7 ∨ k = 8 ∨ k = 9 ∨ k = 10 ∨ k = 11 ∨ k = 12 ∨ k = 13 ∨ k = 14 ∨ k = 15 ∨ k = 16 ∨ k = 17 ∨ k = 18 := by omega
  rcases h with rfl | rfl | rfl | rfl | rfl | rfl | rfl | rfl | rfl | rfl | rfl | rfl | rfl | rfl | rfl | rfl | rfl | rfl
  · show Calls _ _ _ _ fun e w' => e = .returned (kept_i8 r).agg ∧ Upd [] w w'
    rw [keptm_i8 r hr]
    exact ncRowL 1 rfl rfl 1 (by decide) r hr w (fun w1 hu => ncWidth 1 (by decide) w1 (hw.upd hu))
  · show Calls _ _ _ _ fun e w' => e = .returned (kept_i16 r).agg ∧ Upd [] w w'
    rw [keptm_i16 r hr]
    exact ncRowL 2 rfl rfl 2 (by decide) r hr w (fun w1 hu => ncWidth 2 (by decide) w1 (hw.upd hu))
  · show Calls _ _ _ _ fun e w' => e = .returned (kept_i32 r).agg ∧ Upd [] w w'
    rw [keptm_i32 r hr]
    exact ncRowL 3 rfl rfl 4 (by decide) r hr w (fun w1 hu => ncWidth 3 (by decide) w1 (hw.upd hu))
  · show Calls _ _ _ _ fun e w' => e = .returned (kept_i64 r).agg ∧ Upd [] w w'
    rw [keptm_i64 r hr]
    exact ncRowL 4 rfl rfl 8 (by decide) r hr w (fun w1 hu => ncWidth 4 (by decide) w1 (hw.upd hu))
  · show Calls _ _ _ _ fun e w' => e = .returned (kept_i128 r).agg ∧ Upd [] w w'
    rw [keptm_i128 r hr]
    exact ncRowL 5 rfl rfl 16 (by decide) r hr w (fun w1 hu => ncWidth 5 (by decide) w1 (hw.upd hu))
  · show Calls _ _ _ _ fun e w' => e = .returned (kept_i256 r).agg ∧ Upd [] w w'
    rw [keptm_i256 r hr]
    exact ncRowL 6 rfl rfl 32 (by decide) r hr w (fun w1 hu => ncWidth 6 (by decide) w1 (hw.upd hu))
  · show Calls _ _ _ _ fun e w' => e = .returned (kept_u8 r).agg ∧ Upd [] w w'
    rw [keptm_u8 r hr]
    exact ncRowL 7 rfl rfl 1 (by decide) r hr w (fun w1 hu => ncWidth 7 (by decide) w1 (hw.upd hu))
  · show Calls _ _ _ _ fun e w' => e = .returned (kept_u16 r).agg ∧ Upd [] w w'
    rw [keptm_u16 r hr]
    exact ncRowL 8 rfl rfl 2 (by decide) r hr w (fun w1 hu => ncWidth 8 (by decide) w1 (hw.upd hu))
  · show Calls _ _ _ _ fun e w' => e = .returned (kept_u32 r).agg ∧ Upd [] w w'
    rw [keptm_u32 r hr]
    exact ncRowL 9 rfl rfl 4 (by decide) r hr w (fun w1 hu => ncWidth 9 (by decide) w1 (hw.upd hu))
  · show Calls _ _ _ _ fun e w' => e = .returned (kept_u64 r).agg ∧ Upd [] w w'
    rw [keptm_u64 r hr]
    exact ncRowL 10 rfl rfl 8 (by decide) r hr w (fun w1 hu => ncWidth 10 (by decide) w1 (hw.upd hu))
  · show Calls _ _ _ _ fun e w' => e = .returned (kept_u128 r).agg ∧ Upd [] w w'
    rw [keptm_u128 r hr]
    exact ncRowL 11 rfl rfl 16 (by decide) r hr w (fun w1 hu => ncWidth 11 (by decide) w1 (hw.upd hu))
  · show Calls _ _ _ _ fun e w' => e = .returned (kept_u256 r).agg ∧ Upd [] w w'
    rw [keptm_u256 r hr]
    exact ncRowL 12 rfl rfl 32 (by decide) r hr w (fun w1 hu => ncWidth 12 (by decide) w1 (hw.upd hu))
  · show Calls _ _ _ _ fun e w' => e = .returned (kept_f32 r).agg ∧ Upd [] w w'
    rw [keptm_f32 r hr]
    exact ncRowL 13 rfl rfl 4 (by decide) r hr w (fun w1 hu => ncWidth 13 (by decide) w1 (hw.upd hu))
  · show Calls _ _ _ _ fun e w' => e = .returned (kept_f64 r).agg ∧ Upd [] w w'
    rw [keptm_f64 r hr]
    exact ncRowL 14 rfl rfl 8 (by decide) r hr w (fun w1 hu => ncWidth 14 (by decide) w1 (hw.upd hu))
  · exact ncRow15 r w
  · exact ncRow16 r w
  · show Calls _ _ _ _ fun e w' => e = .returned (kept_ipv4 r).agg ∧ Upd [] w w'
    rw [keptm_ipv4 r hr]
    exact ncRowL 17 rfl rfl 4 (by decide) r hr w (fun w1 hu => ncWidth 17 (by decide) w1 (hw.upd hu))
  · show Calls _ _ _ _ fun e w' => e = .returned (kept_ip r).agg ∧ Upd [] w w'
    rw [keptm_ip r hr]
    exact ncRowL 18 rfl rfl 16 (by decide) r hr w (fun w1 hu => ncWidth 18 (by decide) w1 (hw.upd hu))
end Go.Proofs.YteimeeepcfcfcaaGreatDoor
