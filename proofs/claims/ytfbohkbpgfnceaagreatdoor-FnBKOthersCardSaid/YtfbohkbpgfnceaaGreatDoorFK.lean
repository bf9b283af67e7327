/- Columns, a block's head, of which some bytes lack. -/
import Derived.Test.YtfbohkbpgfnceaaGreatDoorFE
import Derived.Test.YtfbohkbpgfnceaaGreatDoorKU
namespace Go.Proofs.YtfbohkbpgfnceaaGreatDoor
set_option linter.unusedVariables false
set_option linter.unusedSimpArgs false
open Go Go.RowKit
set_option maxRecDepth 100000 in
set_option maxHeartbeats 400000 in
theorem ColInt8_short (p rd bf d : Nat) (ao : Option Addr) (n : Nat) (bs : List Value) (w : World) (h : Rdr w rd bf d ao bs) (hl : bs.length < n * 1) (h0 : 0 < n) (h30 : n ≤ 30) :
    Calls Tryz.prog 199 #[.pointer (some ⟨p, 0, none⟩), .pointer (some ⟨rd, 0, none⟩), .int .i64 n] w fun e w' => (∃ q, e = .returned (er q)) ∧ Upd (rdF rd bf ao) w w' := by
  obtain ⟨N, hN⟩ : ∃ N, N = n * 1 := ⟨_, rfl⟩
  have h1 : ((n : Int) == 0) = false := beq_eq_false_iff_ne.2 (by omega)
  have hmul : IntKind.i64.wrap ((n : Int) * 1) = N := by rw [IntWalk.i64_in _ (by omega)]; omega
  have hmul2 : IntKind.i64.wrap ((1 : Int) * n) = N := by rw [IntWalk.i64_in _ (by omega)]; omega
  have HN := Lib.hid hN
  clear hN
  go_enter Tryz.func199, Tryz.ntmps199
  go_wp2_with (go_at_call 205; apply stopHere)
  show Calls _ _ _ _ _
  refine (shRaw rd bf d N _ (by first | rfl | exact hmul | exact hmul2 | (have := HN.out; omega)) ao bs (by have := HN.out; omega) _ h).mono ?_
  rintro e w1 ⟨⟨p1, rfl⟩, hS1⟩
  dsimp only
  go_wp2_with (go_at_call 27; (refine (errWrap p1 _ _).mono ?_); rintro e w3 ⟨⟨p3, rfl⟩, hu3⟩)
  go_ret
  exact ⟨⟨p3, rfl⟩, (hS1.more hu3).upd⟩
set_option maxRecDepth 100000 in
set_option maxHeartbeats 400000 in
theorem ColInt16_short (p rd bf d : Nat) (ao : Option Addr) (n : Nat) (bs : List Value) (w : World) (h : Rdr w rd bf d ao bs) (hl : bs.length < n * 2) (h0 : 0 < n) (h30 : n ≤ 30) :
    Calls Tryz.prog 210 #[.pointer (some ⟨p, 0, none⟩), .pointer (some ⟨rd, 0, none⟩), .int .i64 n] w fun e w' => (∃ q, e = .returned (er q)) ∧ Upd (rdF rd bf ao) w w' := by
  obtain ⟨N, hN⟩ : ∃ N, N = n * 2 := ⟨_, rfl⟩
  have h1 : ((n : Int) == 0) = false := beq_eq_false_iff_ne.2 (by omega)
  have hmul : IntKind.i64.wrap ((n : Int) * 2) = N := by rw [IntWalk.i64_in _ (by omega)]; omega
  have hmul2 : IntKind.i64.wrap ((2 : Int) * n) = N := by rw [IntWalk.i64_in _ (by omega)]; omega
  have HN := Lib.hid hN
  clear hN
  go_enter Tryz.func210, Tryz.ntmps210
  go_wp2_with (go_at_call 205; apply stopHere)
  show Calls _ _ _ _ _
  refine (shRaw rd bf d N _ (by first | rfl | exact hmul | exact hmul2 | (have := HN.out; omega)) ao bs (by have := HN.out; omega) _ h).mono ?_
  rintro e w1 ⟨⟨p1, rfl⟩, hS1⟩
  dsimp only
  go_wp2_with (go_at_call 27; (refine (errWrap p1 _ _).mono ?_); rintro e w3 ⟨⟨p3, rfl⟩, hu3⟩)
  go_ret
  exact ⟨⟨p3, rfl⟩, (hS1.more hu3).upd⟩
set_option maxRecDepth 100000 in
set_option maxHeartbeats 400000 in
theorem ColInt32_short (p rd bf d : Nat) (ao : Option Addr) (n : Nat) (bs : List Value) (w : World) (h : Rdr w rd bf d ao bs) (hl : bs.length < n * 4) (h0 : 0 < n) (h30 : n ≤ 30) :
    Calls Tryz.prog 223 #[.pointer (some ⟨p, 0, none⟩), .pointer (some ⟨rd, 0, none⟩), .int .i64 n] w fun e w' => (∃ q, e = .returned (er q)) ∧ Upd (rdF rd bf ao) w w' := by
  obtain ⟨N, hN⟩ : ∃ N, N = n * 4 := ⟨_, rfl⟩
  have h1 : ((n : Int) == 0) = false := beq_eq_false_iff_ne.2 (by omega)
  have hmul : IntKind.i64.wrap ((n : Int) * 4) = N := by rw [IntWalk.i64_in _ (by omega)]; omega
  have hmul2 : IntKind.i64.wrap ((4 : Int) * n) = N := by rw [IntWalk.i64_in _ (by omega)]; omega
  have HN := Lib.hid hN
  clear hN
  go_enter Tryz.func223, Tryz.ntmps223
  go_wp2_with (go_at_call 205; apply stopHere)
  show Calls _ _ _ _ _
  refine (shRaw rd bf d N _ (by first | rfl | exact hmul | exact hmul2 | (have := HN.out; omega)) ao bs (by have := HN.out; omega) _ h).mono ?_
  rintro e w1 ⟨⟨p1, rfl⟩, hS1⟩
  dsimp only
  go_wp2_with (go_at_call 27; (refine (errWrap p1 _ _).mono ?_); rintro e w3 ⟨⟨p3, rfl⟩, hu3⟩)
  go_ret
  exact ⟨⟨p3, rfl⟩, (hS1.more hu3).upd⟩
set_option maxRecDepth 100000 in
set_option maxHeartbeats 400000 in
theorem ColInt64_short (p rd bf d : Nat) (ao : Option Addr) (n : Nat) (bs : List Value) (w : World) (h : Rdr w rd bf d ao bs) (hl : bs.length < n * 8) (h0 : 0 < n) (h30 : n ≤ 30) :
    Calls Tryz.prog 234 #[.pointer (some ⟨p, 0, none⟩), .pointer (some ⟨rd, 0, none⟩), .int .i64 n] w fun e w' => (∃ q, e = .returned (er q)) ∧ Upd (rdF rd bf ao) w w' := by
  obtain ⟨N, hN⟩ : ∃ N, N = n * 8 := ⟨_, rfl⟩
  have h1 : ((n : Int) == 0) = false := beq_eq_false_iff_ne.2 (by omega)
  have hmul : IntKind.i64.wrap ((n : Int) * 8) = N := by rw [IntWalk.i64_in _ (by omega)]; omega
  have hmul2 : IntKind.i64.wrap ((8 : Int) * n) = N := by rw [IntWalk.i64_in _ (by omega)]; omega
  have HN := Lib.hid hN
  clear hN
  go_enter Tryz.func234, Tryz.ntmps234
  go_wp2_with (go_at_call 205; apply stopHere)
  show Calls _ _ _ _ _
  refine (shRaw rd bf d N _ (by first | rfl | exact hmul | exact hmul2 | (have := HN.out; omega)) ao bs (by have := HN.out; omega) _ h).mono ?_
  rintro e w1 ⟨⟨p1, rfl⟩, hS1⟩
  dsimp only
  go_wp2_with (go_at_call 27; (refine (errWrap p1 _ _).mono ?_); rintro e w3 ⟨⟨p3, rfl⟩, hu3⟩)
  go_ret
  exact ⟨⟨p3, rfl⟩, (hS1.more hu3).upd⟩
set_option maxRecDepth 100000 in
set_option maxHeartbeats 400000 in
theorem ColInt128_short (p rd bf d : Nat) (ao : Option Addr) (n : Nat) (bs : List Value) (w : World) (h : Rdr w rd bf d ao bs) (hl : bs.length < n * 16) (h0 : 0 < n) (h30 : n ≤ 30) :
    Calls Tryz.prog 247 #[.pointer (some ⟨p, 0, none⟩), .pointer (some ⟨rd, 0, none⟩), .int .i64 n] w fun e w' => (∃ q, e = .returned (er q)) ∧ Upd (rdF rd bf ao) w w' := by
  obtain ⟨N, hN⟩ : ∃ N, N = n * 16 := ⟨_, rfl⟩
  have h1 : ((n : Int) == 0) = false := beq_eq_false_iff_ne.2 (by omega)
  have hmul : IntKind.i64.wrap ((n : Int) * 16) = N := by rw [IntWalk.i64_in _ (by omega)]; omega
  have hmul2 : IntKind.i64.wrap ((16 : Int) * n) = N := by rw [IntWalk.i64_in _ (by omega)]; omega
  have HN := Lib.hid hN
  clear hN
  go_enter Tryz.func247, Tryz.ntmps247
  go_wp2_with (go_at_call 205; apply stopHere)
  show Calls _ _ _ _ _
  refine (shRaw rd bf d N _ (by first | rfl | exact hmul | exact hmul2 | (have := HN.out; omega)) ao bs (by have := HN.out; omega) _ h).mono ?_
  rintro e w1 ⟨⟨p1, rfl⟩, hS1⟩
  dsimp only
  go_wp2_with (go_at_call 27; (refine (errWrap p1 _ _).mono ?_); rintro e w3 ⟨⟨p3, rfl⟩, hu3⟩)
  go_ret
  exact ⟨⟨p3, rfl⟩, (hS1.more hu3).upd⟩
set_option maxRecDepth 100000 in
set_option maxHeartbeats 400000 in
theorem ColInt256_short (p rd bf d : Nat) (ao : Option Addr) (n : Nat) (bs : List Value) (w : World) (h : Rdr w rd bf d ao bs) (hl : bs.length < n * 32) (h0 : 0 < n) (h30 : n ≤ 30) :
    Calls Tryz.prog 262 #[.pointer (some ⟨p, 0, none⟩), .pointer (some ⟨rd, 0, none⟩), .int .i64 n] w fun e w' => (∃ q, e = .returned (er q)) ∧ Upd (rdF rd bf ao) w w' := by
  obtain ⟨N, hN⟩ : ∃ N, N = n * 32 := ⟨_, rfl⟩
  have h1 : ((n : Int) == 0) = false := beq_eq_false_iff_ne.2 (by omega)
  have hmul : IntKind.i64.wrap ((n : Int) * 32) = N := by rw [IntWalk.i64_in _ (by omega)]; omega
  have hmul2 : IntKind.i64.wrap ((32 : Int) * n) = N := by rw [IntWalk.i64_in _ (by omega)]; omega
  have HN := Lib.hid hN
  clear hN
  go_enter Tryz.func262, Tryz.ntmps262
  go_wp2_with (go_at_call 205; apply stopHere)
  show Calls _ _ _ _ _
  refine (shRaw rd bf d N _ (by first | rfl | exact hmul | exact hmul2 | (have := HN.out; omega)) ao bs (by have := HN.out; omega) _ h).mono ?_
  rintro e w1 ⟨⟨p1, rfl⟩, hS1⟩
  dsimp only
  go_wp2_with (go_at_call 27; (refine (errWrap p1 _ _).mono ?_); rintro e w3 ⟨⟨p3, rfl⟩, hu3⟩)
  go_ret
  exact ⟨⟨p3, rfl⟩, (hS1.more hu3).upd⟩
set_option maxRecDepth 100000 in
set_option maxHeartbeats 400000 in
theorem ColUInt8_short (p rd bf d : Nat) (ao : Option Addr) (n : Nat) (bs : List Value) (w : World) (h : Rdr w rd bf d ao bs) (hl : bs.length < n * 1) (h0 : 0 < n) (h30 : n ≤ 30) :
    Calls Tryz.prog 275 #[.pointer (some ⟨p, 0, none⟩), .pointer (some ⟨rd, 0, none⟩), .int .i64 n] w fun e w' => (∃ q, e = .returned (er q)) ∧ Upd (rdF rd bf ao) w w' := by
  obtain ⟨N, hN⟩ : ∃ N, N = n * 1 := ⟨_, rfl⟩
  have h1 : ((n : Int) == 0) = false := beq_eq_false_iff_ne.2 (by omega)
  have hmul : IntKind.i64.wrap ((n : Int) * 1) = N := by rw [IntWalk.i64_in _ (by omega)]; omega
  have hmul2 : IntKind.i64.wrap ((1 : Int) * n) = N := by rw [IntWalk.i64_in _ (by omega)]; omega
  have HN := Lib.hid hN
  clear hN
  go_enter Tryz.func275, Tryz.ntmps275
  go_wp2_with (go_at_call 205; apply stopHere)
  show Calls _ _ _ _ _
  refine (shRaw rd bf d N _ (by first | rfl | exact hmul | exact hmul2 | (have := HN.out; omega)) ao bs (by have := HN.out; omega) _ h).mono ?_
  rintro e w1 ⟨⟨p1, rfl⟩, hS1⟩
  dsimp only
  go_wp2_with (go_at_call 27; (refine (errWrap p1 _ _).mono ?_); rintro e w3 ⟨⟨p3, rfl⟩, hu3⟩)
  go_ret
  exact ⟨⟨p3, rfl⟩, (hS1.more hu3).upd⟩
set_option maxRecDepth 100000 in
set_option maxHeartbeats 400000 in
theorem ColUInt16_short (p rd bf d : Nat) (ao : Option Addr) (n : Nat) (bs : List Value) (w : World) (h : Rdr w rd bf d ao bs) (hl : bs.length < n * 2) (h0 : 0 < n) (h30 : n ≤ 30) :
    Calls Tryz.prog 286 #[.pointer (some ⟨p, 0, none⟩), .pointer (some ⟨rd, 0, none⟩), .int .i64 n] w fun e w' => (∃ q, e = .returned (er q)) ∧ Upd (rdF rd bf ao) w w' := by
  obtain ⟨N, hN⟩ : ∃ N, N = n * 2 := ⟨_, rfl⟩
  have h1 : ((n : Int) == 0) = false := beq_eq_false_iff_ne.2 (by omega)
  have hmul : IntKind.i64.wrap ((n : Int) * 2) = N := by rw [IntWalk.i64_in _ (by omega)]; omega
  have hmul2 : IntKind.i64.wrap ((2 : Int) * n) = N := by rw [IntWalk.i64_in _ (by omega)]; omega
  have HN := Lib.hid hN
  clear hN
  go_enter Tryz.func286, Tryz.ntmps286
  go_wp2_with (go_at_call 205; apply stopHere)
  show Calls _ _ _ _ _
  refine (shRaw rd bf d N _ (by first | rfl | exact hmul | exact hmul2 | (have := HN.out; omega)) ao bs (by have := HN.out; omega) _ h).mono ?_
  rintro e w1 ⟨⟨p1, rfl⟩, hS1⟩
  dsimp only
  go_wp2_with (go_at_call 27; (refine (errWrap p1 _ _).mono ?_); rintro e w3 ⟨⟨p3, rfl⟩, hu3⟩)
  go_ret
  exact ⟨⟨p3, rfl⟩, (hS1.more hu3).upd⟩
set_option maxRecDepth 100000 in
set_option maxHeartbeats 400000 in
theorem ColUInt32_short (p rd bf d : Nat) (ao : Option Addr) (n : Nat) (bs : List Value) (w : World) (h : Rdr w rd bf d ao bs) (hl : bs.length < n * 4) (h0 : 0 < n) (h30 : n ≤ 30) :
    Calls Tryz.prog 297 #[.pointer (some ⟨p, 0, none⟩), .pointer (some ⟨rd, 0, none⟩), .int .i64 n] w fun e w' => (∃ q, e = .returned (er q)) ∧ Upd (rdF rd bf ao) w w' := by
  obtain ⟨N, hN⟩ : ∃ N, N = n * 4 := ⟨_, rfl⟩
  have h1 : ((n : Int) == 0) = false := beq_eq_false_iff_ne.2 (by omega)
  have hmul : IntKind.i64.wrap ((n : Int) * 4) = N := by rw [IntWalk.i64_in _ (by omega)]; omega
  have hmul2 : IntKind.i64.wrap ((4 : Int) * n) = N := by rw [IntWalk.i64_in _ (by omega)]; omega
  have HN := Lib.hid hN
  clear hN
  go_enter Tryz.func297, Tryz.ntmps297
  go_wp2_with (go_at_call 205; apply stopHere)
  show Calls _ _ _ _ _
  refine (shRaw rd bf d N _ (by first | rfl | exact hmul | exact hmul2 | (have := HN.out; omega)) ao bs (by have := HN.out; omega) _ h).mono ?_
  rintro e w1 ⟨⟨p1, rfl⟩, hS1⟩
  dsimp only
  go_wp2_with (go_at_call 27; (refine (errWrap p1 _ _).mono ?_); rintro e w3 ⟨⟨p3, rfl⟩, hu3⟩)
  go_ret
  exact ⟨⟨p3, rfl⟩, (hS1.more hu3).upd⟩
set_option maxRecDepth 100000 in
set_option maxHeartbeats 400000 in
theorem ColUInt64_short (p rd bf d : Nat) (ao : Option Addr) (n : Nat) (bs : List Value) (w : World) (h : Rdr w rd bf d ao bs) (hl : bs.length < n * 8) (h0 : 0 < n) (h30 : n ≤ 30) :
    Calls Tryz.prog 308 #[.pointer (some ⟨p, 0, none⟩), .pointer (some ⟨rd, 0, none⟩), .int .i64 n] w fun e w' => (∃ q, e = .returned (er q)) ∧ Upd (rdF rd bf ao) w w' := by
  obtain ⟨N, hN⟩ : ∃ N, N = n * 8 := ⟨_, rfl⟩
  have h1 : ((n : Int) == 0) = false := beq_eq_false_iff_ne.2 (by omega)
  have hmul : IntKind.i64.wrap ((n : Int) * 8) = N := by rw [IntWalk.i64_in _ (by omega)]; omega
  have hmul2 : IntKind.i64.wrap ((8 : Int) * n) = N := by rw [IntWalk.i64_in _ (by omega)]; omega
  have HN := Lib.hid hN
  clear hN
  go_enter Tryz.func308, Tryz.ntmps308
  go_wp2_with (go_at_call 205; apply stopHere)
  show Calls _ _ _ _ _
  refine (shRaw rd bf d N _ (by first | rfl | exact hmul | exact hmul2 | (have := HN.out; omega)) ao bs (by have := HN.out; omega) _ h).mono ?_
  rintro e w1 ⟨⟨p1, rfl⟩, hS1⟩
  dsimp only
  go_wp2_with (go_at_call 27; (refine (errWrap p1 _ _).mono ?_); rintro e w3 ⟨⟨p3, rfl⟩, hu3⟩)
  go_ret
  exact ⟨⟨p3, rfl⟩, (hS1.more hu3).upd⟩
set_option maxRecDepth 100000 in
set_option maxHeartbeats 400000 in
theorem ColUInt128_short (p rd bf d : Nat) (ao : Option Addr) (n : Nat) (bs : List Value) (w : World) (h : Rdr w rd bf d ao bs) (hl : bs.length < n * 16) (h0 : 0 < n) (h30 : n ≤ 30) :
    Calls Tryz.prog 320 #[.pointer (some ⟨p, 0, none⟩), .pointer (some ⟨rd, 0, none⟩), .int .i64 n] w fun e w' => (∃ q, e = .returned (er q)) ∧ Upd (rdF rd bf ao) w w' := by
  obtain ⟨N, hN⟩ : ∃ N, N = n * 16 := ⟨_, rfl⟩
  have h1 : ((n : Int) == 0) = false := beq_eq_false_iff_ne.2 (by omega)
  have hmul : IntKind.i64.wrap ((n : Int) * 16) = N := by rw [IntWalk.i64_in _ (by omega)]; omega
  have hmul2 : IntKind.i64.wrap ((16 : Int) * n) = N := by rw [IntWalk.i64_in _ (by omega)]; omega
  have HN := Lib.hid hN
  clear hN
  go_enter Tryz.func320, Tryz.ntmps320
  go_wp2_with (go_at_call 205; apply stopHere)
  show Calls _ _ _ _ _
  refine (shRaw rd bf d N _ (by first | rfl | exact hmul | exact hmul2 | (have := HN.out; omega)) ao bs (by have := HN.out; omega) _ h).mono ?_
  rintro e w1 ⟨⟨p1, rfl⟩, hS1⟩
  dsimp only
  go_wp2_with (go_at_call 27; (refine (errWrap p1 _ _).mono ?_); rintro e w3 ⟨⟨p3, rfl⟩, hu3⟩)
  go_ret
  exact ⟨⟨p3, rfl⟩, (hS1.more hu3).upd⟩
set_option maxRecDepth 100000 in
set_option maxHeartbeats 400000 in
theorem ColUInt256_short (p rd bf d : Nat) (ao : Option Addr) (n : Nat) (bs : List Value) (w : World) (h : Rdr w rd bf d ao bs) (hl : bs.length < n * 32) (h0 : 0 < n) (h30 : n ≤ 30) :
    Calls Tryz.prog 331 #[.pointer (some ⟨p, 0, none⟩), .pointer (some ⟨rd, 0, none⟩), .int .i64 n] w fun e w' => (∃ q, e = .returned (er q)) ∧ Upd (rdF rd bf ao) w w' := by
  obtain ⟨N, hN⟩ : ∃ N, N = n * 32 := ⟨_, rfl⟩
  have h1 : ((n : Int) == 0) = false := beq_eq_false_iff_ne.2 (by omega)
  have hmul : IntKind.i64.wrap ((n : Int) * 32) = N := by rw [IntWalk.i64_in _ (by omega)]; omega
  have hmul2 : IntKind.i64.wrap ((32 : Int) * n) = N := by rw [IntWalk.i64_in _ (by omega)]; omega
  have HN := Lib.hid hN
  clear hN
  go_enter Tryz.func331, Tryz.ntmps331
  go_wp2_with (go_at_call 205; apply stopHere)
  show Calls _ _ _ _ _
  refine (shRaw rd bf d N _ (by first | rfl | exact hmul | exact hmul2 | (have := HN.out; omega)) ao bs (by have := HN.out; omega) _ h).mono ?_
  rintro e w1 ⟨⟨p1, rfl⟩, hS1⟩
  dsimp only
  go_wp2_with (go_at_call 27; (refine (errWrap p1 _ _).mono ?_); rintro e w3 ⟨⟨p3, rfl⟩, hu3⟩)
  go_ret
  exact ⟨⟨p3, rfl⟩, (hS1.more hu3).upd⟩
set_option maxRecDepth 100000 in
set_option maxHeartbeats 400000 in
theorem ColFloat32_short (p rd bf d : Nat) (ao : Option Addr) (n : Nat) (bs : List Value) (w : World) (h : Rdr w rd bf d ao bs) (hl : bs.length < n * 4) (h0 : 0 < n) (h30 : n ≤ 30) :
    Calls Tryz.prog 342 #[.pointer (some ⟨p, 0, none⟩), .pointer (some ⟨rd, 0, none⟩), .int .i64 n] w fun e w' => (∃ q, e = .returned (er q)) ∧ Upd (rdF rd bf ao) w w' := by
  obtain ⟨N, hN⟩ : ∃ N, N = n * 4 := ⟨_, rfl⟩
  have h1 : ((n : Int) == 0) = false := beq_eq_false_iff_ne.2 (by omega)
  have hmul : IntKind.i64.wrap ((n : Int) * 4) = N := by rw [IntWalk.i64_in _ (by omega)]; omega
  have hmul2 : IntKind.i64.wrap ((4 : Int) * n) = N := by rw [IntWalk.i64_in _ (by omega)]; omega
  have HN := Lib.hid hN
  clear hN
  go_enter Tryz.func342, Tryz.ntmps342
  go_wp2_with (go_at_call 205; apply stopHere)
  show Calls _ _ _ _ _
  refine (shRaw rd bf d N _ (by first | rfl | exact hmul | exact hmul2 | (have := HN.out; omega)) ao bs (by have := HN.out; omega) _ h).mono ?_
  rintro e w1 ⟨⟨p1, rfl⟩, hS1⟩
  dsimp only
  go_wp2_with (go_at_call 27; (refine (errWrap p1 _ _).mono ?_); rintro e w3 ⟨⟨p3, rfl⟩, hu3⟩)
  go_ret
  exact ⟨⟨p3, rfl⟩, (hS1.more hu3).upd⟩
set_option maxRecDepth 100000 in
set_option maxHeartbeats 400000 in
theorem ColFloat64_short (p rd bf d : Nat) (ao : Option Addr) (n : Nat) (bs : List Value) (w : World) (h : Rdr w rd bf d ao bs) (hl : bs.length < n * 8) (h0 : 0 < n) (h30 : n ≤ 30) :
    Calls Tryz.prog 353 #[.pointer (some ⟨p, 0, none⟩), .pointer (some ⟨rd, 0, none⟩), .int .i64 n] w fun e w' => (∃ q, e = .returned (er q)) ∧ Upd (rdF rd bf ao) w w' := by
  obtain ⟨N, hN⟩ : ∃ N, N = n * 8 := ⟨_, rfl⟩
  have h1 : ((n : Int) == 0) = false := beq_eq_false_iff_ne.2 (by omega)
  have hmul : IntKind.i64.wrap ((n : Int) * 8) = N := by rw [IntWalk.i64_in _ (by omega)]; omega
  have hmul2 : IntKind.i64.wrap ((8 : Int) * n) = N := by rw [IntWalk.i64_in _ (by omega)]; omega
  have HN := Lib.hid hN
  clear hN
  go_enter Tryz.func353, Tryz.ntmps353
  go_wp2_with (go_at_call 205; apply stopHere)
  show Calls _ _ _ _ _
  refine (shRaw rd bf d N _ (by first | rfl | exact hmul | exact hmul2 | (have := HN.out; omega)) ao bs (by have := HN.out; omega) _ h).mono ?_
  rintro e w1 ⟨⟨p1, rfl⟩, hS1⟩
  dsimp only
  go_wp2_with (go_at_call 27; (refine (errWrap p1 _ _).mono ?_); rintro e w3 ⟨⟨p3, rfl⟩, hu3⟩)
  go_ret
  exact ⟨⟨p3, rfl⟩, (hS1.more hu3).upd⟩
set_option maxRecDepth 100000 in
set_option maxHeartbeats 400000 in
theorem ColBFloat16_short (p rd bf d : Nat) (ao : Option Addr) (n : Nat) (bs : List Value) (w : World) (h : Rdr w rd bf d ao bs) (hl : bs.length < n * 2) (h0 : 0 < n) (h30 : n ≤ 30) :
    Calls Tryz.prog 365 #[.pointer (some ⟨p, 0, none⟩), .pointer (some ⟨rd, 0, none⟩), .int .i64 n] w fun e w' => (∃ q, e = .returned (er q)) ∧ Upd (rdF rd bf ao) w w' := by
  obtain ⟨N, hN⟩ : ∃ N, N = n * 2 := ⟨_, rfl⟩
  have h1 : ((n : Int) == 0) = false := beq_eq_false_iff_ne.2 (by omega)
  have hmul : IntKind.i64.wrap ((n : Int) * 2) = N := by rw [IntWalk.i64_in _ (by omega)]; omega
  have hmul2 : IntKind.i64.wrap ((2 : Int) * n) = N := by rw [IntWalk.i64_in _ (by omega)]; omega
  have HN := Lib.hid hN
  clear hN
  go_enter Tryz.func365, Tryz.ntmps365
  go_wp2_with (go_at_call 205; apply stopHere)
  show Calls _ _ _ _ _
  refine (shRaw rd bf d N _ (by first | rfl | exact hmul | exact hmul2 | (have := HN.out; omega)) ao bs (by have := HN.out; omega) _ h).mono ?_
  rintro e w1 ⟨⟨p1, rfl⟩, hS1⟩
  dsimp only
  go_wp2_with (go_at_call 27; (refine (errWrap p1 _ _).mono ?_); rintro e w3 ⟨⟨p3, rfl⟩, hu3⟩)
  go_ret
  exact ⟨⟨p3, rfl⟩, (hS1.more hu3).upd⟩
set_option maxRecDepth 100000 in
set_option maxHeartbeats 400000 in
theorem ColBool_short (p rd bf d : Nat) (ao : Option Addr) (n : Nat) (bs : List Value) (w : World) (h : Rdr w rd bf d ao bs) (hl : bs.length < n * 1) (h0 : 0 < n) (h30 : n ≤ 30) :
    Calls Tryz.prog 375 #[.pointer (some ⟨p, 0, none⟩), .pointer (some ⟨rd, 0, none⟩), .int .i64 n] w fun e w' => (∃ q, e = .returned (er q)) ∧ Upd (rdF rd bf ao) w w' := by
  obtain ⟨N, hN⟩ : ∃ N, N = n * 1 := ⟨_, rfl⟩
  have h1 : ((n : Int) == 0) = false := beq_eq_false_iff_ne.2 (by omega)
  have hmul : IntKind.i64.wrap ((n : Int) * 1) = N := by rw [IntWalk.i64_in _ (by omega)]; omega
  have hmul2 : IntKind.i64.wrap ((1 : Int) * n) = N := by rw [IntWalk.i64_in _ (by omega)]; omega
  have HN := Lib.hid hN
  clear hN
  go_enter Tryz.func375, Tryz.ntmps375
  go_wp2_with (go_at_call 205; apply stopHere)
  show Calls _ _ _ _ _
  refine (shRaw rd bf d N _ (by first | rfl | exact hmul | exact hmul2 | (have := HN.out; omega)) ao bs (by have := HN.out; omega) _ h).mono ?_
  rintro e w1 ⟨⟨p1, rfl⟩, hS1⟩
  dsimp only
  go_wp2_with (go_at_call 27; (refine (errWrap p1 _ _).mono ?_); rintro e w3 ⟨⟨p3, rfl⟩, hu3⟩)
  go_ret
  exact ⟨⟨p3, rfl⟩, (hS1.more hu3).upd⟩
set_option maxRecDepth 100000 in
set_option maxHeartbeats 400000 in
theorem ColIPv4_short (p rd bf d : Nat) (ao : Option Addr) (n : Nat) (bs : List Value) (w : World) (h : Rdr w rd bf d ao bs) (hl : bs.length < n * 4) (h0 : 0 < n) (h30 : n ≤ 30) :
    Calls Tryz.prog 387 #[.pointer (some ⟨p, 0, none⟩), .pointer (some ⟨rd, 0, none⟩), .int .i64 n] w fun e w' => (∃ q, e = .returned (er q)) ∧ Upd (rdF rd bf ao) w w' := by
  obtain ⟨N, hN⟩ : ∃ N, N = n * 4 := ⟨_, rfl⟩
  have h1 : ((n : Int) == 0) = false := beq_eq_false_iff_ne.2 (by omega)
  have hmul : IntKind.i64.wrap ((n : Int) * 4) = N := by rw [IntWalk.i64_in _ (by omega)]; omega
  have hmul2 : IntKind.i64.wrap ((4 : Int) * n) = N := by rw [IntWalk.i64_in _ (by omega)]; omega
  have HN := Lib.hid hN
  clear hN
  go_enter Tryz.func387, Tryz.ntmps387
  go_wp2_with (go_at_call 205; apply stopHere)
  show Calls _ _ _ _ _
  refine (shRaw rd bf d N _ (by first | rfl | exact hmul | exact hmul2 | (have := HN.out; omega)) ao bs (by have := HN.out; omega) _ h).mono ?_
  rintro e w1 ⟨⟨p1, rfl⟩, hS1⟩
  dsimp only
  go_wp2_with (go_at_call 27; (refine (errWrap p1 _ _).mono ?_); rintro e w3 ⟨⟨p3, rfl⟩, hu3⟩)
  go_ret
  exact ⟨⟨p3, rfl⟩, (hS1.more hu3).upd⟩
set_option maxRecDepth 100000 in
set_option maxHeartbeats 400000 in
theorem ColIPv6_short (p rd bf d : Nat) (ao : Option Addr) (n : Nat) (bs : List Value) (w : World) (h : Rdr w rd bf d ao bs) (hl : bs.length < n * 16) (h0 : 0 < n) (h30 : n ≤ 30) :
    Calls Tryz.prog 398 #[.pointer (some ⟨p, 0, none⟩), .pointer (some ⟨rd, 0, none⟩), .int .i64 n] w fun e w' => (∃ q, e = .returned (er q)) ∧ Upd (rdF rd bf ao) w w' := by
  obtain ⟨N, hN⟩ : ∃ N, N = n * 16 := ⟨_, rfl⟩
  have h1 : ((n : Int) == 0) = false := beq_eq_false_iff_ne.2 (by omega)
  have hmul : IntKind.i64.wrap ((n : Int) * 16) = N := by rw [IntWalk.i64_in _ (by omega)]; omega
  have hmul2 : IntKind.i64.wrap ((16 : Int) * n) = N := by rw [IntWalk.i64_in _ (by omega)]; omega
  have HN := Lib.hid hN
  clear hN
  go_enter Tryz.func398, Tryz.ntmps398
  go_wp2_with (go_at_call 205; apply stopHere)
  show Calls _ _ _ _ _
  refine (shRaw rd bf d N _ (by first | rfl | exact hmul | exact hmul2 | (have := HN.out; omega)) ao bs (by have := HN.out; omega) _ h).mono ?_
  rintro e w1 ⟨⟨p1, rfl⟩, hS1⟩
  dsimp only
  go_wp2_with (go_at_call 27; (refine (errWrap p1 _ _).mono ?_); rintro e w3 ⟨⟨p3, rfl⟩, hu3⟩)
  go_ret
  exact ⟨⟨p3, rfl⟩, (hS1.more hu3).upd⟩
/-- a column of which some bytes lack is not read -/
def KdShort (K : Kd) : Prop := ∀ (p rd bf d : Nat) (ao : Option Addr) (n : Nat) (bs : List Value) (w : World), Rdr w rd bf d ao bs → bs.length < n * K.width → 0 < n → n ≤ 30 →
  Calls Tryz.prog K.fDec #[.pointer (some ⟨p, 0, none⟩), .pointer (some ⟨rd, 0, none⟩), .int .i64 n] w fun e w' => (∃ q, e = .returned (er q)) ∧ Upd (rdF rd bf ao) w w'
theorem kd_short (k : Int) (h1 : 1 ≤ k) (h2 : k ≤ 18) : KdShort (kd k) := by
  have h : k = 1 ∨ k = 2 ∨ k = 3 ∨ k = 4 ∨ k = 5 ∨ k = 6 ∨ k = 7 ∨ k = 8 ∨ k = 9 ∨ k = 10 ∨ k = 11 ∨ k = 12 ∨ k = 13 ∨ k = 14 ∨ k = 15 ∨ k = 16 ∨ k = 17 ∨ k = 18 := by omega
  rcases h with rfl | rfl | rfl | rfl | rfl | rfl | rfl | rfl | rfl | rfl | rfl | rfl | rfl | rfl | rfl | rfl | rfl | rfl
  · exact fun p rd bf d ao n bs w h hl h0 h30 => ColInt8_short p rd bf d ao n bs w h hl h0 h30
  · exact fun p rd bf d ao n bs w h hl h0 h30 => ColInt16_short p rd bf d ao n bs w h hl h0 h30
  · exact fun p rd bf d ao n bs w h hl h0 h30 => ColInt32_short p rd bf d ao n bs w h hl h0 h30
  · exact fun p rd bf d ao n bs w h hl h0 h30 => ColInt64_short p rd bf d ao n bs w h hl h0 h30
  · exact fun p rd bf d ao n bs w h hl h0 h30 => ColInt128_short p rd bf d ao n bs w h hl h0 h30
  · exact fun p rd bf d ao n bs w h hl h0 h30 => ColInt256_short p rd bf d ao n bs w h hl h0 h30
  · exact fun p rd bf d ao n bs w h hl h0 h30 => ColUInt8_short p rd bf d ao n bs w h hl h0 h30
  · exact fun p rd bf d ao n bs w h hl h0 h30 => ColUInt16_short p rd bf d ao n bs w h hl h0 h30
  · exact fun p rd bf d ao n bs w h hl h0 h30 => ColUInt32_short p rd bf d ao n bs w h hl h0 h30
  · exact fun p rd bf d ao n bs w h hl h0 h30 => ColUInt64_short p rd bf d ao n bs w h hl h0 h30
  · exact fun p rd bf d ao n bs w h hl h0 h30 => ColUInt128_short p rd bf d ao n bs w h hl h0 h30
  · exact fun p rd bf d ao n bs w h hl h0 h30 => ColUInt256_short p rd bf d ao n bs w h hl h0 h30
  · exact fun p rd bf d ao n bs w h hl h0 h30 => ColFloat32_short p rd bf d ao n bs w h hl h0 h30
  · exact fun p rd bf d ao n bs w h hl h0 h30 => ColFloat64_short p rd bf d ao n bs w h hl h0 h30
  · exact fun p rd bf d ao n bs w h hl h0 h30 => ColBFloat16_short p rd bf d ao n bs w h hl h0 h30
  · exact fun p rd bf d ao n bs w h hl h0 h30 => ColBool_short p rd bf d ao n bs w h hl h0 h30
  · exact fun p rd bf d ao n bs w h hl h0 h30 => ColIPv4_short p rd bf d ao n bs w h hl h0 h30
  · exact fun p rd bf d ao n bs w h hl h0 h30 => ColIPv6_short p rd bf d ao n bs w h hl h0 h30
theorem UpdK.fails {w w1 w2 : World} {kb rd bf : Nat} {ao ao1 : Option Addr} (hU : Upd (kb :: rdF rd bf ao) w w1) (hI : In (bk ao) w.heap.size ao1) (h : Upd (rdF rd bf ao1) w1 w2) : Upd (kb :: rdF rd bf ao) w w2 :=
  hU.trans h (fun y hy => (rdF_step hI y hy).imp (List.mem_cons_of_mem _) id)
set_option maxRecDepth 100000 in
set_option maxHeartbeats 2000000 in
/-- a head of which some bytes lack -/
theorem InfoShort (kb rd bf d : Nat) (ao : Option Addr) (ov : Bool) (b c r : Int) (hb : -2147483648 ≤ b ∧ b < 2147483648) (k : Nat) (hk8 : k < 8) (w : World) (h : Rdr w rd bf d ao ((infoV ov b).take k)) (hk : w.heap[kb]? = some (blkC false 0 c r)) (ho : Off kb rd bf d ao) :
    Calls Tryz.prog 33 #[.pointer (some ⟨kb, 0, none⟩), .pointer (some ⟨rd, 0, none⟩)] w fun e w' => (∃ q, e = .returned (er q)) ∧ Upd (kb :: rdF rd bf ao) w w' := by
  have hkl := lt_of_block hk
  have hinf : infoV ov b = .int .u8 1 :: bitV ov :: .int .u8 2 :: (leV 4 b ++ [.int .u8 0]) := by simp [infoV]
  have hl4 : (leV 4 b).length = 4 := leV_len 4 b
  go_enter Tryz.func33, Tryz.ntmps33
  go_wp2
  go_loopw [] (fun wr => (ReadsK w wr kb rd bf d ao ((infoV ov b).take k) ∧ wr.heap[kb]? = some (blkC false 0 c r)) ∨ (2 ≤ k ∧ ReadsK w wr kb rd bf d ao ((.int .u8 2 :: (leV 4 b ++ [.int .u8 0])).take (k - 2)) ∧ wr.heap[kb]? = some (blkC ov 0 c r)) ∨ (7 ≤ k ∧ ReadsK w wr kb rd bf d ao [] ∧ wr.heap[kb]? = some (blkC ov b c r)))
    (fun wr => rdLen wr rd)
  case atStart => exact .inl ⟨⟨ao, h, Upd.refl _ _, In.self (fun _ h => h)⟩, hk⟩
  case round =>
    rcases hrel with ⟨⟨ao1, hR, hU, hI⟩, hB⟩ | ⟨h2k, ⟨ao1, hR, hU, hI⟩, hB⟩ | ⟨h7k, ⟨ao1, hR, hU, hI⟩, hB⟩
    · have hO := ho.step hI hkl
      have hlen := hR.len
      rw [hinf] at hR hlen
      by_cases hk0 : k = 0
      · subst hk0
        rw [List.take_zero] at hR
        go_wp2_with (first
          | (go_at_call 68; (refine (shUVarInt rd bf d ao1 _ hR).mono ?_); rintro e w1 ⟨⟨p1, rfl⟩, hS1⟩)
          | (go_at_call 27; (refine (errWrap p1 _ _).mono ?_); rintro e w3 ⟨⟨p3, rfl⟩, hu3⟩))
        go_ret
        exact ⟨⟨p3, rfl⟩, UpdK.fails hU hI (hS1.more hu3).upd⟩
      · by_cases hk1 : k = 1
        · subst hk1
          rw [show (Value.int .u8 1 :: bitV ov :: .int .u8 2 :: (leV 4 b ++ [.int .u8 0])).take 1 = [.int .u8 1] from rfl] at hR
          go_wp2_with (first
            | (go_at_call 68; (refine (rdUVarInt rd bf d ao1 1 (.inr (.inl rfl)) _ _ hR).mono ?_); rintro e w1 ⟨rfl, ao2, hR2, hU2, hI2⟩)
            | (go_at_call 69; (refine (shBool rd bf d ao2 _ hR2).mono ?_); rintro e w2 ⟨⟨p1, rfl⟩, hS1⟩)
            | (go_at_call 27; (refine (errWrap p1 _ _).mono ?_); rintro e w3 ⟨⟨p3, rfl⟩, hu3⟩))
          go_ret
          exact ⟨⟨p3, rfl⟩, UpdK.fails hU hI (ShortR.trans hU2 hI2 (hS1.more hu3)).upd⟩
        · obtain ⟨m, rfl⟩ : ∃ m, k = m + 2 := ⟨k - 2, by omega⟩
          rw [show (Value.int .u8 1 :: bitV ov :: .int .u8 2 :: (leV 4 b ++ [.int .u8 0])).take (m + 2) = .int .u8 1 :: bitV ov :: (Value.int .u8 2 :: (leV 4 b ++ [.int .u8 0])).take m from rfl] at hR hlen
          go_wp2_with (first
            | (go_at_call 68; (refine (rdUVarInt rd bf d ao1 1 (.inr (.inl rfl)) _ _ hR).mono ?_); rintro e w1 ⟨rfl, ao2, hR2, hU2, hI2⟩; have hB2 := hU2.at hB hO.not; have hO2 := hO.step hI2 (Nat.lt_of_lt_of_le hkl hU.size))
            | (go_at_call 69; (refine (rdBool rd bf d ao2 ov _ _ hR2).mono ?_); rintro e w2 ⟨rfl, ao3, hR3, hU3, hI3⟩; have hB3 := hU3.at hB2 hO2.not; obtain ⟨q0, q1, q2, q3, qf⟩ := blk_cells hB3; have f0 := qf 0))
          have hU23 : Upd (kb :: rdF rd bf ao) w w2 := (ReadsK.trans hU hI (ReadsK.of (Reads.trans hU2 hI2 ⟨ao3, hR3, hU3, hI3⟩))).choose_spec.2.1
          have hI23 : In (bk ao) w.heap.size ao3 := (hI.step hI2 hU.size).step hI3 (Nat.le_trans hU.size hU2.size)
          have hK3 : ReadsK w w2 kb rd bf d ao ((Value.int .u8 2 :: (leV 4 b ++ [.int .u8 0])).take m) := ⟨ao3, hR3, hU23, hI23⟩
          have hK4 := hK3.put hkl ho ((Upd.refl [kb] w2).setCell (p := ⟨kb, 0, none⟩) (Value.bool ov) (by simp))
          have hB4 := blk_set0 hB3 ov
          have hlen4 : rdLen (w2.setCell ⟨kb, 0, none⟩ (Value.bool ov)) rd = ((Value.int .u8 2 :: (leV 4 b ++ [.int .u8 0])).take m).length := by obtain ⟨ao4, hR4, _⟩ := hK4; exact hR4.len
          clear hU23 hI23 hK3
          go_roundw
          case rel => exact .inr (.inl ⟨by omega, by rw [show m + 2 - 2 = m by omega]; exact hK4, hB4⟩)
          case measure => rw [hlen4, hlen]; simp only [List.length_cons]; omega
    · have hO := ho.step hI hkl
      have hlen := hR.len
      by_cases hk2 : k = 2
      · subst hk2
        rw [show (2 - 2 : Nat) = 0 from rfl, List.take_zero] at hR
        go_wp2_with (first
          | (go_at_call 68; (refine (shUVarInt rd bf d ao1 _ hR).mono ?_); rintro e w1 ⟨⟨p1, rfl⟩, hS1⟩)
          | (go_at_call 27; (refine (errWrap p1 _ _).mono ?_); rintro e w3 ⟨⟨p3, rfl⟩, hu3⟩))
        go_ret
        exact ⟨⟨p3, rfl⟩, UpdK.fails hU hI (hS1.more hu3).upd⟩
      · obtain ⟨m, rfl⟩ : ∃ m, k = m + 3 := ⟨k - 3, by omega⟩
        rw [show m + 3 - 2 = m + 1 by omega, List.take_succ_cons] at hR hlen
        by_cases hm : m < 4
        · have hml : ((leV 4 b ++ [Value.int .u8 0]).take m).length < 4 := by rw [List.length_take]; omega
          go_wp2_with (first
            | (go_at_call 68; (refine (rdUVarInt rd bf d ao1 2 (.inr (.inr rfl)) _ _ hR).mono ?_); rintro e w1 ⟨rfl, ao2, hR2, hU2, hI2⟩)
            | (go_at_call 70; (refine (shInt32 rd bf d ao2 _ hml _ hR2).mono ?_); rintro e w2 ⟨⟨p1, rfl⟩, hS1⟩)
            | (go_at_call 27; (refine (errWrap p1 _ _).mono ?_); rintro e w3 ⟨⟨p3, rfl⟩, hu3⟩))
          go_ret
          exact ⟨⟨p3, rfl⟩, UpdK.fails hU hI (ShortR.trans hU2 hI2 (hS1.more hu3)).upd⟩
        · obtain rfl : m = 4 := by omega
          have ht4 : (leV 4 b ++ [Value.int .u8 0]).take 4 = leV 4 b ++ [] := by rw [List.take_append_of_le_length (by omega), List.take_of_length_le (by omega), List.append_nil]
          rw [ht4] at hR hlen
          go_wp2_with (first
            | (go_at_call 68; (refine (rdUVarInt rd bf d ao1 2 (.inr (.inr rfl)) _ _ hR).mono ?_); rintro e w1 ⟨rfl, ao2, hR2, hU2, hI2⟩; have hB2 := hU2.at hB hO.not; have hO2 := hO.step hI2 (Nat.lt_of_lt_of_le hkl hU.size))
            | (go_at_call 70; (refine (rdInt32 rd bf d ao2 b hb _ _ hR2).mono ?_); rintro e w2 ⟨rfl, ao3, hR3, hU3, hI3⟩; have hB3 := hU3.at hB2 hO2.not; obtain ⟨q0, q1, q2, q3, qf⟩ := blk_cells hB3; have f0 := qf 1))
          have hU23 : Upd (kb :: rdF rd bf ao) w w2 := (ReadsK.trans hU hI (ReadsK.of (Reads.trans hU2 hI2 ⟨ao3, hR3, hU3, hI3⟩))).choose_spec.2.1
          have hI23 : In (bk ao) w.heap.size ao3 := (hI.step hI2 hU.size).step hI3 (Nat.le_trans hU.size hU2.size)
          have hK3 : ReadsK w w2 kb rd bf d ao [] := ⟨ao3, hR3, hU23, hI23⟩
          have hK4 := hK3.put hkl ho ((Upd.refl [kb] w2).setCell (p := ⟨kb, 1, none⟩) (Value.int .i64 b) (by simp))
          have hB4 := blk_set1 hB3 b
          have hlen4 : rdLen (w2.setCell ⟨kb, 1, none⟩ (Value.int .i64 b)) rd = ([] : List Value).length := by obtain ⟨ao4, hR4, _⟩ := hK4; exact hR4.len
          clear hU23 hI23 hK3
          go_roundw
          case rel => exact .inr (.inr ⟨by omega, hK4, hB4⟩)
          case measure => rw [hlen4, hlen]; simp
    · go_wp2_with (first
        | (go_at_call 68; (refine (shUVarInt rd bf d ao1 _ hR).mono ?_); rintro e w1 ⟨⟨p1, rfl⟩, hS1⟩)
        | (go_at_call 27; (refine (errWrap p1 _ _).mono ?_); rintro e w3 ⟨⟨p3, rfl⟩, hu3⟩))
      go_ret
      exact ⟨⟨p3, rfl⟩, UpdK.fails hU hI (hS1.more hu3).upd⟩
end Go.Proofs.YtfbohkbpgfnceaaGreatDoor
