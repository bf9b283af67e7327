/- A Reader: numbers under 128, strings. -/
import Derived.Test.YtfbohkbpgfnceaaGreatDoorKM
import Derived.Test.YtfbohkbpgfnceaaGreatDoorKC
namespace Go.Proofs.YtfbohkbpgfnceaaGreatDoor
set_option linter.unusedVariables false
set_option linter.unusedSimpArgs false
open Go Go.RowKit
set_option maxRecDepth 100000 in
set_option maxHeartbeats 1000000 in
/-- a number under 128 in a byte of its own -/
theorem rdUVarIntN (rd bf d : Nat) (ao : Option Addr) (x : Int) (h0 : 0 ≤ x) (hx : x < 128) (bs : List Value) (w : World) (h : Rdr w rd bf d ao (.int .u8 x :: bs)) :
    Calls Tryz.prog 68 #[.pointer (some ⟨rd, 0, none⟩)] w fun e w' => e = .returned (.tuple #[.int .u64 x, .nilIface]) ∧ Reads w w' rd bf d ao bs := by
  have hor : bits .or .u64 0 x = x := or_zero64 x ⟨h0, by omega⟩
  have hwr : IntKind.u64.wrap x = x := by rw [IntKind.wrap_u64]; omega
  have hwm : x % 18446744073709551616 = x := by omega
  go_enter Tryz.func68, Tryz.ntmps68
  go_wp2
  go_loopw [4, 5, 6] (fun a s i wr => a = .int .u64 0 ∧ s = .int .u64 0 ∧ i = .int .i64 0 ∧ wr = w) (fun _ _ _ _ => 0)
  case atStart => exact ⟨rfl, rfl, rfl, rfl⟩
  case round =>
    obtain ⟨rfl, rfl, rfl, hw⟩ := hrel
    go_wp2_with (go_at_call 103; (refine (rdReadByte rd bf d ao _ bs _ h).mono ?_); rintro e w1 ⟨rfl, hR1⟩)
    refine bodyPost_ret (results_tmp2 Tryz.results68 _ _ _) rfl ⟨by first | rfl | simp, hR1⟩
set_option maxRecDepth 100000 in
set_option maxHeartbeats 1000000 in
theorem rdIntN (rd bf d : Nat) (ao : Option Addr) (x : Int) (h0 : 0 ≤ x) (hx : x < 128) (bs : List Value) (w : World) (h : Rdr w rd bf d ao (.int .u8 x :: bs)) :
    Calls Tryz.prog 71 #[.pointer (some ⟨rd, 0, none⟩)] w fun e w' => e = .returned (.tuple #[.int .i64 x, .nilIface]) ∧ Reads w w' rd bf d ao bs := by
  have hwr : IntKind.i64.wrap x = x := by rw [IntKind.wrap_i64]; omega
  go_enter Tryz.func71, Tryz.ntmps71
  go_wp2_with (go_at_call 68; (refine (rdUVarIntN rd bf d ao x h0 hx bs _ h).mono ?_); rintro e w1 ⟨rfl, hR1⟩)
  refine bodyPost_ret (results_tmp2 Tryz.results71 _ _ _) rfl ⟨by first | rfl | (simp [hwr]; done) | (simp; omega), hR1⟩
set_option maxRecDepth 100000 in
set_option maxHeartbeats 1000000 in
theorem rdStrLen (rd bf d : Nat) (ao : Option Addr) (x : Int) (h0 : 0 ≤ x) (hx : x < 128) (bs : List Value) (w : World) (h : Rdr w rd bf d ao (.int .u8 x :: bs)) :
    Calls Tryz.prog 114 #[.pointer (some ⟨rd, 0, none⟩)] w fun e w' => e = .returned (.tuple #[.int .i64 x, .nilIface]) ∧ Reads w w' rd bf d ao bs := by
  go_enter Tryz.func114, Tryz.ntmps114
  go_wp2_with (go_at_call 71; (refine (rdIntN rd bf d ao x h0 hx bs _ h).mono ?_); rintro e w1 ⟨rfl, hR1⟩)
  refine bodyPost_ret (results_tmp2 Tryz.results114 _ _ _) rfl ⟨by first | rfl | simp, hR1⟩
theorem strOf_byteCells (s : ByteArray) : strOf (byteCells s) = s := by
  have key : ∀ (ns : List Int) (r : ByteArray), (ns.foldl (fun r n => r.push (UInt8.ofNat n.toNat)) r).data.toList = r.data.toList ++ ns.map (fun n => UInt8.ofNat n.toNat) := by
    intro ns
    induction ns with
    | nil => intro s; simp
    | cons n ns ih => intro s; rw [List.foldl_cons, ih]; simp [ByteArray.push]
  have h : (strOf (byteCells s)).data.toList = s.data.toList := by
    unfold strOf byteCells
    rw [key, List.map_map, List.map_map]
    have : ((fun n : Int => UInt8.ofNat n.toNat) ∘ intOf ∘ fun b : UInt8 => Value.int .u8 b.toNat) = id := by
      funext b
      simp [intOf]
    have h2 : (((fun n : Int => UInt8.ofNat n.toNat) ∘ intOf) ∘ fun b : UInt8 => Value.int .u8 b.toNat) = id := this
    rw [h2]
    simp
    first | done | rfl
  cases hs : strOf (byteCells s) with
  | mk a =>
    cases s with
    | mk b =>
      rw [hs] at h
      congr 1
      exact Array.toList_inj.1 h
/-- the buffer is written, and still begins in the same block -/
theorem Rdr.rebuf {w w' : World} {rd bf d : Nat} {ao : Option Addr} {bs : List Value} {n c : Nat} {xs : List Value} (h : Rdr w rd bf d ao bs) (hu : Upd [bf] w w') (hH : Hold w' bf 46 5 1 ao n c xs) : Rdr w' rd bf d ao bs := by
  obtain ⟨o, cc, hb, hc, hr⟩ := h.blk
  exact ⟨⟨o, cc, hu.at hb (by simpa using h.n1), hc, hu.range hr h.dlt (by simpa using h.n3)⟩, h.bytes, Nat.lt_of_lt_of_le h.dlt hu.size, ⟨n, c, xs, hH⟩, h.n1, h.n2, h.n3, h.n4, h.n5⟩
set_option maxRecDepth 100000 in
set_option maxHeartbeats 400000 in
theorem ResetD (bf g n c : Nat) (xs : List Value) (u : FrameMode) (w : World) (h : Hold w bf 46 5 1 (some ⟨g, 0, none⟩) n c xs) :
    CallsD Tryz.prog 106 #[.pointer (some ⟨bf, 0, none⟩)] u w fun e u' w' => u' = u ∧ (e = .returned (.tuple #[]) ∧ Hold w' bf 46 5 1 (some ⟨g, 0, none⟩) 0 c [] ∧ Upd [bf] w w') := by
  have hc := h.cell
  have hf := h.free
  have hr0 : Row w 5 1 (some ⟨g, 0, none⟩) 0 c [] := by
    obtain ⟨ys, hy⟩ := h.own.upto 0 (Nat.zero_le _)
    have := List.eq_nil_of_length_eq_zero (by simpa using hy.len)
    subst this
    exact hy
  refine callsD_of_wp Tryz.func106 rfl ?_
  simp only [Tryz.ntmps106, List.size_toArray, List.length_cons, List.length_nil, Nat.reduceAdd, Nat.reduceSub, Array.replicate_succ,
     Array.replicate_zero, List.push_toArray, List.append_toArray, List.nil_append, List.cons_append]
  go_wp2
  go_end0
  exact ⟨rfl, Hold.stored h.blk hr0 h.ne, (Upd.refl _ _).setCell _ (by simp)⟩
set_option maxRecDepth 100000 in
set_option maxHeartbeats 1000000 in
theorem rdStrRaw (rd bf d : Nat) (ao : Option Addr) (s : ByteArray) (h0 : 0 < s.size) (hx : s.size < 128) (bs : List Value) (w : World) (h : Rdr w rd bf d ao (strV s ++ bs)) :
    Calls Tryz.prog 107 #[.pointer (some ⟨rd, 0, none⟩)] w fun e w' => RawGot w w' rd bf d ao s.size (byteCells s ++ bs) e := by
  go_enter Tryz.func107, Tryz.ntmps107
  go_wp2_with (go_at_call 114; apply stopHere)
  show Calls _ _ _ _ _
  refine (rdStrLen rd bf d ao s.size (by omega) (by omega) (byteCells s ++ bs) _ h).mono ?_
  rintro e w1 ⟨rfl, ao1, hR1, hU1, hI1⟩
  dsimp only
  go_wp2_with (go_at_call 112; (refine (readFullB rd bf d s.size ao1 _ _ hR1 h0 (by omega) (by rw [List.length_append, byteCells_len]; omega)).mono ?_); rintro e w2 ⟨rfl, g, c2, hR2, hH2, hu2, hi2⟩; obtain ⟨o2, cc2, hb2, _, _⟩ := hR2.blk; have q1 : w2.cell? ⟨rd, 1, none⟩ = some (.pointer (some ⟨bf, 0, none⟩)) := (by simp [World.cell?, hb2]); have q2 := hH2.cell; clear hb2)
  refine bodyPost_ret (results_tmp2 Tryz.results107 _ _ _) rfl ⟨g, c2, by first | rfl | simp, hR2, hH2, ?_, hI1.step hi2 hU1.size⟩
  exact hU1.trans hu2 (fun y hy => by
    simp only [rdF, List.mem_cons] at hy ⊢
    rcases hy with h | h | h
    · exact .inl (.inl h)
    · exact .inl (.inr (.inl h))
    · rcases hI1 y h with h | h
      · exact .inl (.inr (.inr h))
      · exact .inr h)
set_option maxRecDepth 100000 in
set_option maxHeartbeats 1000000 in
theorem rdStr (rd bf d : Nat) (ao : Option Addr) (s : ByteArray) (h0 : 0 < s.size) (hx : s.size < 128) (bs : List Value) (w : World) (h : Rdr w rd bf d ao (strV s ++ bs)) :
    Calls Tryz.prog 75 #[.pointer (some ⟨rd, 0, none⟩)] w fun e w' => e = .returned (.tuple #[.string s, .nilIface]) ∧ Reads w w' rd bf d ao bs := by
  obtain ⟨o, c, hb, _, _⟩ := h.blk
  have r1 : w.cell? ⟨rd, 1, none⟩ = some (.pointer (some ⟨bf, 0, none⟩)) := by simp [World.cell?, hb]
  clear hb
  go_enter_defers Tryz.func75, Tryz.ntmps75
  go_wp2_with (go_at_call 107; apply stopHere)
  show Calls _ _ _ _ _
  refine (rdStrRaw rd bf d ao s h0 hx bs _ h).mono ?_
  rintro e w1 ⟨g, c1, rfl, hR1, hH1, hU1, hI1⟩
  dsimp only
  have ht : (byteCells s ++ bs).take s.size = byteCells s := by rw [List.take_append_of_le_length (by rw [byteCells_len]; omega), List.take_of_length_le (by rw [byteCells_len]; omega)]
  have hd : (byteCells s ++ bs).drop s.size = bs := by rw [List.drop_append_of_le_length (by rw [byteCells_len]; omega), List.drop_of_length_le (by rw [byteCells_len]; omega), List.nil_append]
  rw [ht] at hH1
  rw [hd] at hR1
  have hconv := run_text (some ⟨g, 0, none⟩) s.size c1 (byteCells s) w1 hH1.own.toView (byteCells_bytes s)
  rw [strOf_byteCells] at hconv
  go_wp2
  refine leaves_cons (f := 106) (args := #[.pointer (some ⟨bf, 0, none⟩)]) (by simp) (by simp [go_sem]) ?_
  refine (ResetD bf g _ _ _ _ _ hH1).mono ?_
  rintro e u' w2 ⟨rfl, rfl, hH2, hU2⟩
  simp [Leaves, settle, results, Tryz.results75, go_sem]
  refine ⟨some ⟨g, 0, none⟩, hR1.rebuf hU2 hH2, hU1.trans hU2 (fun y hy => ?_), hI1⟩
  simp at hy
  exact .inl (by simp [rdF, hy])
end Go.Proofs.YtfbohkbpgfnceaaGreatDoor
