/- Errors; a Reader that has too few bytes. -/
import Derived.Test.YtfbohkbpgfnceaaGreatDoorKO
namespace Go.Proofs.YtfbohkbpgfnceaaGreatDoor
set_option linter.unusedVariables false
set_option linter.unusedSimpArgs false
open Go Go.RowKit
/-- an error -/
abbrev er (p : Nat) : Value := .iface 212 (.pointer (some ⟨p, 0, none⟩))
set_option maxRecDepth 100000 in
set_option maxHeartbeats 400000 in
theorem errNew (s : ByteArray) (w : World) : Calls Tryz.prog 74 #[.string s] w fun e w' => (∃ p, e = .returned (er p)) ∧ Upd [] w w' := by
  go_enter Tryz.func74, Tryz.ntmps74
  go_wp2
  go_ret
  exact ⟨⟨_, rfl⟩, (Upd.refl _ _).alloc _⟩
set_option maxRecDepth 100000 in
set_option maxHeartbeats 400000 in
theorem errWrap (p : Nat) (s : ByteArray) (w : World) : Calls Tryz.prog 27 #[er p, .string s] w fun e w' => (∃ p, e = .returned (er p)) ∧ Upd [] w w' := by
  go_enter Tryz.func27, Tryz.ntmps27
  go_wp2
  go_ret
  exact ⟨⟨_, rfl⟩, (Upd.refl _ _).alloc _⟩
set_option maxRecDepth 100000 in
set_option maxHeartbeats 400000 in
theorem errWrapf (p : Nat) (s : ByteArray) (v : Value) (w : World) : Calls Tryz.prog 67 #[er p, .string s, v] w fun e w' => (∃ p, e = .returned (er p)) ∧ Upd [] w w' := by
  go_enter Tryz.func67, Tryz.ntmps67
  go_wp2_with (go_at_call 27; (refine (errWrap p s _).mono ?_); rintro e w2 ⟨⟨p2, rfl⟩, hu2⟩)
  go_ret
  exact ⟨⟨_, rfl⟩, hu2⟩
set_option maxRecDepth 100000 in
set_option maxHeartbeats 400000 in
theorem errErrorf (s : ByteArray) (v : Value) (w : World) : Calls Tryz.prog 65 #[.string s, v] w fun e w' => (∃ p, e = .returned (er p)) ∧ Upd [] w w' := by
  go_enter Tryz.func65, Tryz.ntmps65
  go_wp2_with (go_at_call 74; (refine (errNew s _).mono ?_); rintro e w2 ⟨⟨p2, rfl⟩, hu2⟩)
  go_ret
  exact ⟨⟨_, rfl⟩, hu2⟩
/-- what is left of a Reader that had too few bytes: its buffer -/
def ShortR (w w' : World) (rd bf : Nat) (ao : Option Addr) : Prop := ∃ ao' n c xs, Hold w' bf 46 5 1 ao' n c xs ∧ Upd (rdF rd bf ao) w w' ∧ In (bk ao) w.heap.size ao'
theorem rdF_step {w : World} {rd bf : Nat} {ao ao1 : Option Addr} (hi : In (bk ao) w.heap.size ao1) : ∀ y, y ∈ rdF rd bf ao1 → y ∈ rdF rd bf ao ∨ w.heap.size ≤ y := fun y hy => by
  simp only [rdF, List.mem_cons] at hy ⊢
  rcases hy with h | h | h
  · exact .inl (.inl h)
  · exact .inl (.inr (.inl h))
  · rcases hi y h with h | h
    · exact .inl (.inr (.inr h))
    · exact .inr h
theorem ShortR.trans {w w1 w2 : World} {rd bf : Nat} {ao ao1 : Option Addr} (hu : Upd (rdF rd bf ao) w w1) (hi : In (bk ao) w.heap.size ao1) (h : ShortR w1 w2 rd bf ao1) : ShortR w w2 rd bf ao := by
  obtain ⟨ao2, n, c, xs, h1, h2, h3⟩ := h
  exact ⟨ao2, n, c, xs, h1, hu.trans h2 (rdF_step hi), hi.step h3 hu.size⟩
theorem ShortR.more {w w1 w2 : World} {rd bf : Nat} {ao : Option Addr} (h : ShortR w w1 rd bf ao) (hu : Upd [] w1 w2) : ShortR w w2 rd bf ao := by
  obtain ⟨ao2, n, c, xs, h1, h2, h3⟩ := h
  exact ⟨ao2, n, c, xs, h1.kept hu (by simp) (by simp), h2.trans hu (by simp), h3⟩
theorem ShortR.upd {w w1 : World} {rd bf : Nat} {ao : Option Addr} (h : ShortR w w1 rd bf ao) : Upd (rdF rd bf ao) w w1 := by
  obtain ⟨ao2, n, c, xs, h1, h2, h3⟩ := h
  exact h2
set_option maxRecDepth 100000 in
set_option maxHeartbeats 400000 in
theorem rdEnd (rd bf d : Nat) (ao : Option Addr) (bs : List Value) (w : World) (h : Rdr w rd bf d ao bs) :
    Calls Tryz.prog 115 #[.pointer (some ⟨rd, 0, none⟩)] w fun e w' => (∃ p, e = .returned (er p)) ∧ ShortR w w' rd bf ao := by
  obtain ⟨o, c, hblk, hLc, hr⟩ := h.blk
  obtain ⟨nb, cb, xs, hH⟩ := h.buf
  have fr : w.frozen? ⟨rd, 0, none⟩ = false := by simp [World.frozen?, hblk]
  have r0 : w.cell? ⟨rd, 0, none⟩ = some (.slice (some ⟨d, o, none⟩) bs.length c) := by simp [World.cell?, hblk]
  have hS := (Upd.refl [rd] w).setCell (p := ⟨rd, 0, none⟩) (Value.slice none 0 0) (by simp)
  have hH1 := hH.kept hS (by simpa [eq_comm] using h.n1) (fun x hx hx' => by simp at hx'; subst hx'; exact h.n4 hx)
  have n1 := h.n1
  have n4 := h.n4
  clear hblk hr hLc
  go_enter Tryz.func115, Tryz.ntmps115
  go_wp2_with (go_at_call 74; (refine (errNew _ _).mono ?_); rintro e w2 ⟨⟨p2, rfl⟩, hu2⟩)
  go_ret
  exact ⟨⟨_, rfl⟩, ao, nb, cb, xs, hH1.kept hu2 (by simp) (by simp), (hS.mono (by simp +contextual)).trans hu2 (by simp), In.self (fun _ h => h)⟩
set_option maxRecDepth 100000 in
set_option maxHeartbeats 400000 in
theorem shFull (rd bf d n : Nat) (ao : Option Addr) (bs : List Value) (w : World) (h : Rdr w rd bf d ao bs) (hL : bs.length < n) :
    Calls Tryz.prog 112 #[.pointer (some ⟨rd, 0, none⟩), .int .i64 n] w fun e w' => (∃ p, e = .returned (er p)) ∧ ShortR w w' rd bf ao := by
  obtain ⟨o, c, hblk, hLc, hr⟩ := h.blk
  have r0 : w.cell? ⟨rd, 0, none⟩ = some (.slice (some ⟨d, o, none⟩) bs.length c) := by simp [World.cell?, hblk]
  have hnI : (bs.length : Int) < n := by omega
  clear hblk hr hLc
  go_enter Tryz.func112, Tryz.ntmps112
  go_wp2_with (first
    | (go_at_call 115; (refine (rdEnd rd bf d ao bs _ h).mono ?_); rintro e w2 ⟨⟨p2, rfl⟩, hS2⟩)
    | (go_at_call 27; (refine (errWrap p2 _ _).mono ?_); rintro e w3 ⟨⟨p3, rfl⟩, hu3⟩))
  go_ret
  exact ⟨⟨_, rfl⟩, hS2.more hu3⟩
set_option maxRecDepth 100000 in
set_option maxHeartbeats 1000000 in
theorem shReadByte (rd bf d : Nat) (ao : Option Addr) (w : World) (h : Rdr w rd bf d ao []) :
    Calls Tryz.prog 103 #[.pointer (some ⟨rd, 0, none⟩)] w fun e w' => (∃ p, e = .returned (.tuple #[.int .u8 0, er p])) ∧ ShortR w w' rd bf ao := by
  go_enter Tryz.func103, Tryz.ntmps103
  go_wp2_with (go_at_call 112; (refine (shFull rd bf d 1 ao _ _ h (by decide)).mono ?_); rintro e w1 ⟨⟨p1, rfl⟩, hS1⟩)
  refine bodyPost_ret (results_tmp2 Tryz.results103 _ _ _) rfl ⟨⟨p1, by first | rfl | simp⟩, hS1⟩
set_option maxRecDepth 100000 in
set_option maxHeartbeats 1000000 in
theorem shUInt8 (rd bf d : Nat) (ao : Option Addr) (w : World) (h : Rdr w rd bf d ao []) :
    Calls Tryz.prog 104 #[.pointer (some ⟨rd, 0, none⟩)] w fun e w' => (∃ p, e = .returned (.tuple #[.int .u8 0, er p])) ∧ ShortR w w' rd bf ao := by
  go_enter Tryz.func104, Tryz.ntmps104
  go_wp2_with (first
    | (go_at_call 112; (refine (shFull rd bf d 1 ao _ _ h (by decide)).mono ?_); rintro e w1 ⟨⟨p1, rfl⟩, hS1⟩)
    | (go_at_call 27; (refine (errWrap p1 _ _).mono ?_); rintro e w3 ⟨⟨p3, rfl⟩, hu3⟩))
  refine bodyPost_ret (results_tmp2 Tryz.results104 _ _ _) rfl ⟨⟨p3, by first | rfl | simp⟩, hS1.more hu3⟩
set_option maxRecDepth 100000 in
set_option maxHeartbeats 1000000 in
theorem shUVarInt (rd bf d : Nat) (ao : Option Addr) (w : World) (h : Rdr w rd bf d ao []) :
    Calls Tryz.prog 68 #[.pointer (some ⟨rd, 0, none⟩)] w fun e w' => (∃ p, e = .returned (.tuple #[.int .u64 0, er p])) ∧ ShortR w w' rd bf ao := by
  go_enter Tryz.func68, Tryz.ntmps68
  go_wp2
  go_loopw [4, 5, 6] (fun a s i wr => a = .int .u64 0 ∧ s = .int .u64 0 ∧ i = .int .i64 0 ∧ wr = w) (fun _ _ _ _ => 0)
  case atStart => exact ⟨rfl, rfl, rfl, rfl⟩
  case round =>
    obtain ⟨rfl, rfl, rfl, hw⟩ := hrel
    subst hw
    go_wp2_with (first
      | (go_at_call 103; (refine (shReadByte rd bf d ao _ h).mono ?_); rintro e w1 ⟨⟨p1, rfl⟩, hS1⟩)
      | (go_at_call 27; (refine (errWrap p1 _ _).mono ?_); rintro e w3 ⟨⟨p3, rfl⟩, hu3⟩))
    refine bodyPost_ret (results_tmp2 Tryz.results68 _ _ _) rfl ⟨⟨p3, by first | rfl | simp⟩, hS1.more hu3⟩
set_option maxRecDepth 100000 in
set_option maxHeartbeats 1000000 in
theorem shInt (rd bf d : Nat) (ao : Option Addr) (w : World) (h : Rdr w rd bf d ao []) :
    Calls Tryz.prog 71 #[.pointer (some ⟨rd, 0, none⟩)] w fun e w' => (∃ p, e = .returned (.tuple #[.int .i64 0, er p])) ∧ ShortR w w' rd bf ao := by
  go_enter Tryz.func71, Tryz.ntmps71
  go_wp2_with (first
    | (go_at_call 68; (refine (shUVarInt rd bf d ao _ h).mono ?_); rintro e w1 ⟨⟨p1, rfl⟩, hS1⟩)
    | (go_at_call 27; (refine (errWrap p1 _ _).mono ?_); rintro e w3 ⟨⟨p3, rfl⟩, hu3⟩))
  refine bodyPost_ret (results_tmp2 Tryz.results71 _ _ _) rfl ⟨⟨p3, by first | rfl | simp⟩, hS1.more hu3⟩
set_option maxRecDepth 100000 in
set_option maxHeartbeats 1000000 in
theorem shStrLen (rd bf d : Nat) (ao : Option Addr) (w : World) (h : Rdr w rd bf d ao []) :
    Calls Tryz.prog 114 #[.pointer (some ⟨rd, 0, none⟩)] w fun e w' => (∃ p, e = .returned (.tuple #[.int .i64 0, er p])) ∧ ShortR w w' rd bf ao := by
  go_enter Tryz.func114, Tryz.ntmps114
  go_wp2_with (first
    | (go_at_call 71; (refine (shInt rd bf d ao _ h).mono ?_); rintro e w1 ⟨⟨p1, rfl⟩, hS1⟩)
    | (go_at_call 27; (refine (errWrap p1 _ _).mono ?_); rintro e w3 ⟨⟨p3, rfl⟩, hu3⟩))
  refine bodyPost_ret (results_tmp2 Tryz.results114 _ _ _) rfl ⟨⟨p3, by first | rfl | simp⟩, hS1.more hu3⟩
set_option maxRecDepth 100000 in
set_option maxHeartbeats 1000000 in
/-- a string of which some bytes lack -/
theorem shStrRaw (rd bf d : Nat) (ao : Option Addr) (s : ByteArray) (h0 : 0 < s.size) (hx : s.size < 128) (k : Nat) (hk : k < (strV s).length) (w : World) (h : Rdr w rd bf d ao ((strV s).take k)) :
    Calls Tryz.prog 107 #[.pointer (some ⟨rd, 0, none⟩)] w fun e w' => (∃ p, e = .returned (.tuple #[.slice none 0 0, er p])) ∧ ShortR w w' rd bf ao := by
  rw [strV_len] at hk
  cases k with
  | zero =>
    rw [List.take_zero] at h
    go_enter Tryz.func107, Tryz.ntmps107
    go_wp2_with (first
      | (go_at_call 114; (refine (shStrLen rd bf d ao _ h).mono ?_); rintro e w1 ⟨⟨p1, rfl⟩, hS1⟩)
      | (go_at_call 27; (refine (errWrap p1 _ _).mono ?_); rintro e w3 ⟨⟨p3, rfl⟩, hu3⟩))
    refine bodyPost_ret (results_tmp2 Tryz.results107 _ _ _) rfl ⟨⟨p3, by first | rfl | simp⟩, hS1.more hu3⟩
  | succ k =>
    have ht : (strV s).take (k + 1) = .int .u8 s.size :: (byteCells s).take k := rfl
    rw [ht] at h
    have htl : ((byteCells s).take k).length < s.size := by rw [List.length_take, byteCells_len]; omega
    go_enter Tryz.func107, Tryz.ntmps107
    go_wp2_with (first
      | (go_at_call 114; (refine (rdStrLen rd bf d ao s.size (by omega) (by omega) _ _ h).mono ?_); rintro e w1 ⟨rfl, ao1, hR1, hU1, hI1⟩)
      | (go_at_call 112; (refine (shFull rd bf d s.size ao1 _ _ hR1 htl).mono ?_); rintro e w2 ⟨⟨p2, rfl⟩, hS2⟩)
      | (go_at_call 27; (refine (errWrap p2 _ _).mono ?_); rintro e w3 ⟨⟨p3, rfl⟩, hu3⟩))
    refine bodyPost_ret (results_tmp2 Tryz.results107 _ _ _) rfl ⟨⟨p3, by first | rfl | simp⟩, (ShortR.trans hU1 hI1 hS2).more hu3⟩
set_option maxRecDepth 100000 in
set_option maxHeartbeats 400000 in
theorem ResetN (bf n c : Nat) (ao : Option Addr) (xs : List Value) (u : FrameMode) (w : World) (h : Hold w bf 46 5 1 ao n c xs) :
    CallsD Tryz.prog 106 #[.pointer (some ⟨bf, 0, none⟩)] u w fun e u' w' => u' = u ∧ (e = .returned (.tuple #[]) ∧ (∃ n c xs, Hold w' bf 46 5 1 ao n c xs) ∧ Upd [bf] w w') := by
  rcases h.own.head_or with ⟨rfl, rfl, rfl, rfl⟩ | ⟨g, rfl⟩
  · have hc := h.cell
    have hf := h.free
    refine callsD_of_wp Tryz.func106 rfl ?_
    simp only [Tryz.ntmps106, List.size_toArray, List.length_cons, List.length_nil, Nat.reduceAdd, Nat.reduceSub, Array.replicate_succ,
       Array.replicate_zero, List.push_toArray, List.append_toArray, List.nil_append, List.cons_append]
    go_wp2
    go_end0
    exact ⟨rfl, ⟨0, 0, [], Hold.stored h.blk Row.nil (by simp)⟩, (Upd.refl _ _).setCell _ (by simp)⟩
  · refine (ResetD bf g n c xs u w h).mono ?_
    rintro e u' w' ⟨h1, h2, h3, h4⟩
    exact ⟨h1, h2, ⟨_, _, _, h3⟩, h4⟩
/-- no string, and an error -/
def StrFail (e : Ending) : Prop := ∃ z p, e = .returned (.tuple #[.string z, er p])
set_option maxRecDepth 100000 in
set_option maxHeartbeats 1000000 in
theorem shStr (rd bf d : Nat) (ao : Option Addr) (s : ByteArray) (h0 : 0 < s.size) (hx : s.size < 128) (k : Nat) (hk : k < (strV s).length) (w : World) (h : Rdr w rd bf d ao ((strV s).take k)) :
    Calls Tryz.prog 75 #[.pointer (some ⟨rd, 0, none⟩)] w fun e w' => StrFail e ∧ Upd (rdF rd bf ao) w w' := by
  obtain ⟨o, c, hb, _, _⟩ := h.blk
  have r1 : w.cell? ⟨rd, 1, none⟩ = some (.pointer (some ⟨bf, 0, none⟩)) := by simp [World.cell?, hb]
  clear hb
  go_enter_defers Tryz.func75, Tryz.ntmps75
  go_wp2_with (first
    | (go_at_call 107; (refine (shStrRaw rd bf d ao s h0 hx k hk _ h).mono ?_); rintro e w1 ⟨⟨p1, rfl⟩, hS1⟩)
    | (go_at_call 27; (refine (errWrap p1 _ _).mono ?_); rintro e w3 ⟨⟨p3, rfl⟩, hu3⟩))
  obtain ⟨ao3, n3, c3, xs3, hH3, hU3, hI3⟩ := hS1.more hu3
  refine leaves_cons (f := 106) (args := #[.pointer (some ⟨bf, 0, none⟩)]) (by simp) (by simp [go_sem]) ?_
  refine (ResetN bf _ _ _ _ _ _ hH3).mono ?_
  rintro e u' w2 ⟨rfl, rfl, _, hU2⟩
  simp [Leaves, settle, results, Tryz.results75, go_sem]
  refine ⟨⟨_, p3, rfl⟩, hU3.trans hU2 (fun y hy => ?_)⟩
  simp at hy
  exact .inl (by simp [rdF, hy])
set_option maxRecDepth 100000 in
set_option maxHeartbeats 1000000 in
theorem shBool (rd bf d : Nat) (ao : Option Addr) (w : World) (h : Rdr w rd bf d ao []) :
    Calls Tryz.prog 69 #[.pointer (some ⟨rd, 0, none⟩)] w fun e w' => (∃ p, e = .returned (.tuple #[.bool false, er p])) ∧ ShortR w w' rd bf ao := by
  go_enter Tryz.func69, Tryz.ntmps69
  go_wp2_with (first
    | (go_at_call 104; (refine (shUInt8 rd bf d ao _ h).mono ?_); rintro e w1 ⟨⟨p1, rfl⟩, hS1⟩)
    | (go_at_call 27; (refine (errWrap p1 _ _).mono ?_); rintro e w3 ⟨⟨p3, rfl⟩, hu3⟩))
  refine bodyPost_ret (results_tmp2 Tryz.results69 _ _ _) rfl ⟨⟨p3, by first | rfl | simp⟩, hS1.more hu3⟩
set_option maxRecDepth 100000 in
set_option maxHeartbeats 1000000 in
theorem shUInt32 (rd bf d : Nat) (ao : Option Addr) (bs : List Value) (hl : bs.length < 4) (w : World) (h : Rdr w rd bf d ao bs) :
    Calls Tryz.prog 105 #[.pointer (some ⟨rd, 0, none⟩)] w fun e w' => (∃ p, e = .returned (.tuple #[.int .u32 0, er p])) ∧ ShortR w w' rd bf ao := by
  go_enter Tryz.func105, Tryz.ntmps105
  go_wp2_with (first
    | (go_at_call 112; (refine (shFull rd bf d 4 ao _ _ h hl).mono ?_); rintro e w1 ⟨⟨p1, rfl⟩, hS1⟩)
    | (go_at_call 27; (refine (errWrap p1 _ _).mono ?_); rintro e w3 ⟨⟨p3, rfl⟩, hu3⟩))
  refine bodyPost_ret (results_tmp2 Tryz.results105 _ _ _) rfl ⟨⟨p3, by first | rfl | simp⟩, hS1.more hu3⟩
set_option maxRecDepth 100000 in
set_option maxHeartbeats 1000000 in
theorem shInt32 (rd bf d : Nat) (ao : Option Addr) (bs : List Value) (hl : bs.length < 4) (w : World) (h : Rdr w rd bf d ao bs) :
    Calls Tryz.prog 70 #[.pointer (some ⟨rd, 0, none⟩)] w fun e w' => (∃ p, e = .returned (.tuple #[.int .i32 0, er p])) ∧ ShortR w w' rd bf ao := by
  go_enter Tryz.func70, Tryz.ntmps70
  go_wp2_with (go_at_call 105; (refine (shUInt32 rd bf d ao bs hl _ h).mono ?_); rintro e w1 ⟨⟨p1, rfl⟩, hS1⟩)
  refine bodyPost_ret (results_tmp2 Tryz.results70 _ _ _) rfl ⟨⟨p1, by first | rfl | simp⟩, hS1⟩
set_option maxRecDepth 100000 in
set_option maxHeartbeats 1000000 in
theorem shRaw (rd bf d n : Nat) (M : Int) (hM : M = n) (ao : Option Addr) (bs : List Value) (hl : bs.length < n) (w : World) (h : Rdr w rd bf d ao bs) :
    Calls Tryz.prog 205 #[.pointer (some ⟨rd, 0, none⟩), .int .i64 M] w fun e w' => (∃ p, e = .returned (.tuple #[.slice none 0 0, er p])) ∧ ShortR w w' rd bf ao := by
  subst hM
  go_enter Tryz.func205, Tryz.ntmps205
  go_wp2_with (first
    | (go_at_call 112; (refine (shFull rd bf d n ao _ _ h hl).mono ?_); rintro e w1 ⟨⟨p1, rfl⟩, hS1⟩)
    | (go_at_call 27; (refine (errWrap p1 _ _).mono ?_); rintro e w3 ⟨⟨p3, rfl⟩, hu3⟩))
  refine bodyPost_ret (results_tmp2 Tryz.results205 _ _ _) rfl ⟨⟨p3, by first | rfl | simp⟩, hS1.more hu3⟩
end Go.Proofs.YtfbohkbpgfnceaaGreatDoor
