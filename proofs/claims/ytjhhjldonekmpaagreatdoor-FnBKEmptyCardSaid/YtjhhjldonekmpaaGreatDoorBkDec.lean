/- A block without columns is decoded. -/
import Derived.Test.YtjhhjldonekmpaaGreatDoorBkRd
namespace Go.Proofs.YtjhhjldonekmpaaGreatDoor
open Go Go.RowKit
/-- how many bytes a Reader has before it -/
def rdLen (w : World) (rd : Nat) : Nat := match w.cell? ⟨rd, 0, none⟩ with
  | some (.slice _ n _) => n
  | _ => 0
theorem Rdr.len {w : World} {rd bf d : Nat} {ao : Option Addr} {bs : List Value} (h : Rdr w rd bf d ao bs) : rdLen w rd = bs.length := by
  obtain ⟨o, c, h1, _⟩ := h.blk
  have : w.cell? ⟨rd, 0, none⟩ = some (.slice (some ⟨d, o, none⟩) bs.length c) := by simp [World.cell?, h1]
  simp only [rdLen, this]
/-- a block's head in its variable -/
def blkC (ov : Bool) (b c r : Int) : Obj := .cells #[.bool ov, .int .i64 b, .int .i64 c, .int .i64 r] 52 (0, 0)
/-- the block k is none of the Reader's -/
def Off (k rd bf d : Nat) (ao : Option Addr) : Prop := k ≠ rd ∧ k ≠ bf ∧ k ≠ d ∧ k ∉ bk ao
theorem Off.not {k rd bf d : Nat} {ao : Option Addr} (h : Off k rd bf d ao) : k ∉ rdF rd bf ao := by
  obtain ⟨h1, h2, _, h4⟩ := h
  simp [rdF, h1, h2, h4]
theorem Off.step {k rd bf d : Nat} {ao ao' : Option Addr} {B : Nat} (h : Off k rd bf d ao) (hi : In (bk ao) B ao') (hk : k < B) : Off k rd bf d ao' := ⟨h.1, h.2.1, h.2.2.1, fun hx => (hi k hx).elim h.2.2.2 (fun e => by omega)⟩
theorem Rdr.keptK {w w' : World} {rd bf d k : Nat} {ao : Option Addr} {bs : List Value} (h : Rdr w rd bf d ao bs) (hu : Upd [k] w w') (ho : Off k rd bf d ao) : Rdr w' rd bf d ao bs :=
  h.kept hu (fun x hx => by simp at hx; subst hx; exact ho)
/-- some of the bytes are read, and the block k is written -/
def ReadsK (w w' : World) (k rd bf d : Nat) (ao : Option Addr) (rest : List Value) : Prop := ∃ ao', Rdr w' rd bf d ao' rest ∧ Upd (k :: rdF rd bf ao) w w' ∧ In (bk ao) w.heap.size ao'
theorem ReadsK.of {w w' : World} {k rd bf d : Nat} {ao : Option Addr} {rest : List Value} (h : Reads w w' rd bf d ao rest) : ReadsK w w' k rd bf d ao rest := by
  obtain ⟨ao', h1, h2, h3⟩ := h
  exact ⟨ao', h1, h2.mono (fun x hx => .inl (List.mem_cons_of_mem _ hx)), h3⟩
theorem ReadsK.trans {w w1 w2 : World} {k rd bf d : Nat} {ao ao1 : Option Addr} {rest : List Value} (hu : Upd (k :: rdF rd bf ao) w w1) (hi : In (bk ao) w.heap.size ao1) (h : ReadsK w1 w2 k rd bf d ao1 rest) : ReadsK w w2 k rd bf d ao rest := by
  obtain ⟨ao2, h1, h2, h3⟩ := h
  refine ⟨ao2, h1, hu.trans h2 (fun y hy => ?_), hi.step h3 hu.size⟩
  simp only [rdF, List.mem_cons] at hy ⊢
  rcases hy with h | h | h | h
  · exact .inl (.inl h)
  · exact .inl (.inr (.inl h))
  · exact .inl (.inr (.inr (.inl h)))
  · rcases hi y h with h | h
    · exact .inl (.inr (.inr (.inr h)))
    · exact .inr h
/-- the block k is written behind that -/
theorem ReadsK.put {w w1 w2 : World} {k rd bf d : Nat} {ao : Option Addr} {rest : List Value} (h : ReadsK w w1 k rd bf d ao rest) (hk : k < w.heap.size) (ho : Off k rd bf d ao) (hu : Upd [k] w1 w2) : ReadsK w w2 k rd bf d ao rest := by
  obtain ⟨ao1, h1, h2, h3⟩ := h
  exact ⟨ao1, h1.keptK hu (ho.step h3 hk), h2.trans hu (fun y hy => .inl (by simp at hy; simp [hy])), h3⟩
theorem blk_cells {w : World} {k : Nat} {ov : Bool} {b c r : Int} (h : w.heap[k]? = some (blkC ov b c r)) : w.cell? ⟨k, 0, none⟩ = some (.bool ov) ∧ w.cell? ⟨k, 1, none⟩ = some (.int .i64 b) ∧ w.cell? ⟨k, 2, none⟩ = some (.int .i64 c) ∧ w.cell? ⟨k, 3, none⟩ = some (.int .i64 r) ∧ ∀ j, w.frozen? ⟨k, j, none⟩ = false := by
  unfold blkC at h
  refine ⟨?_, ?_, ?_, ?_, fun j => ?_⟩
  · simp [World.cell?, h]
  · simp [World.cell?, h]
  · simp [World.cell?, h]
  · simp [World.cell?, h]
  · simp [World.frozen?, h]
theorem blk_set0 {w : World} {k : Nat} {ov : Bool} {b c r : Int} (h : w.heap[k]? = some (blkC ov b c r)) (x : Bool) : (w.setCell ⟨k, 0, none⟩ (.bool x)).heap[k]? = some (blkC x b c r) := heap_setCell_same w k 0 _ _ _ h
theorem blk_set1 {w : World} {k : Nat} {ov : Bool} {b c r : Int} (h : w.heap[k]? = some (blkC ov b c r)) (x : Int) : (w.setCell ⟨k, 1, none⟩ (.int .i64 x)).heap[k]? = some (blkC ov x c r) := heap_setCell_same w k 1 _ _ _ h
theorem blk_set2 {w : World} {k : Nat} {ov : Bool} {b c r : Int} (h : w.heap[k]? = some (blkC ov b c r)) (x : Int) : (w.setCell ⟨k, 2, none⟩ (.int .i64 x)).heap[k]? = some (blkC ov b x r) := heap_setCell_same w k 2 _ _ _ h
theorem blk_set3 {w : World} {k : Nat} {ov : Bool} {b c r : Int} (h : w.heap[k]? = some (blkC ov b c r)) (x : Int) : (w.setCell ⟨k, 3, none⟩ (.int .i64 x)).heap[k]? = some (blkC ov b c x) := heap_setCell_same w k 3 _ _ _ h
set_option maxRecDepth 100000 in
set_option maxHeartbeats 1000000 in
theorem InfoDecode (kb rd bf d : Nat) (ao : Option Addr) (ov : Bool) (b c r : Int) (hb : -2147483648 ≤ b ∧ b < 2147483648) (rest : List Value) (w : World) (h : Rdr w rd bf d ao (infoV ov b ++ rest)) (hk : w.heap[kb]? = some (blkC false 0 c r)) (ho : Off kb rd bf d ao) :
    Calls Tryz.prog 34 #[.pointer (some ⟨kb, 0, none⟩), .pointer (some ⟨rd, 0, none⟩)] w fun e w' => e = .returned .nilIface ∧ w'.heap[kb]? = some (blkC ov b c r) ∧ ReadsK w w' kb rd bf d ao rest := by
  have hkl := lt_of_block hk
  have hinf : infoV ov b ++ rest = .int .u8 1 :: (bitV ov :: .int .u8 2 :: (leV 4 b ++ (.int .u8 0 :: rest))) := by simp [infoV]
  go_enter Tryz.func34, Tryz.ntmps34
  go_wp2
  go_loopw [] (fun wr => (ReadsK w wr kb rd bf d ao (infoV ov b ++ rest) ∧ wr.heap[kb]? = some (blkC false 0 c r)) ∨ (ReadsK w wr kb rd bf d ao (.int .u8 2 :: (leV 4 b ++ (.int .u8 0 :: rest))) ∧ wr.heap[kb]? = some (blkC ov 0 c r)) ∨ (ReadsK w wr kb rd bf d ao (.int .u8 0 :: rest) ∧ wr.heap[kb]? = some (blkC ov b c r)))
    (fun wr => rdLen wr rd)
  case atStart => exact .inl ⟨⟨ao, h, Upd.refl _ _, In.self (fun _ h => h)⟩, hk⟩
  case round =>
    rcases hrel with ⟨⟨ao1, hR, hU, hI⟩, hB⟩ | ⟨⟨ao1, hR, hU, hI⟩, hB⟩ | ⟨⟨ao1, hR, hU, hI⟩, hB⟩
    · have hO := ho.step hI hkl
      have hlen := hR.len
      rw [hinf] at hR
      go_wp2_with (first
        | (go_at_call 73; (refine (rdUVarInt rd bf d ao1 1 (.inr (.inl rfl)) _ _ hR).mono ?_); rintro e w1 ⟨rfl, ao2, hR2, hU2, hI2⟩; have hB2 := hU2.at hB hO.not; have hO2 := hO.step hI2 (Nat.lt_of_lt_of_le hkl hU.size))
        | (go_at_call 74; (refine (rdBool rd bf d ao2 ov _ _ hR2).mono ?_); rintro e w2 ⟨rfl, ao3, hR3, hU3, hI3⟩; have hB3 := hU3.at hB2 hO2.not; obtain ⟨q0, q1, q2, q3, qf⟩ := blk_cells hB3; have f0 := qf 0))
      have hO3 := hO2.step hI3 (Nat.lt_of_lt_of_le (Nat.lt_of_lt_of_le hkl hU.size) hU2.size)
      have hK1 := ReadsK.trans hU hI (ReadsK.of ⟨ao2, hR2, hU2, hI2⟩)
      obtain ⟨ao2', hR2', hU2', hI2'⟩ := hK1
      have hU23 : Upd (kb :: rdF rd bf ao) w w2 := (ReadsK.trans hU hI (ReadsK.of (Reads.trans hU2 hI2 ⟨ao3, hR3, hU3, hI3⟩))).choose_spec.2.1
      have hI23 : In (bk ao) w.heap.size ao3 := (hI.step hI2 hU.size).step hI3 (Nat.le_trans hU.size hU2.size)
      have hK3 : ReadsK w w2 kb rd bf d ao (.int .u8 2 :: (leV 4 b ++ (.int .u8 0 :: rest))) := ⟨ao3, hR3, hU23, hI23⟩
      have hK4 := hK3.put hkl ho ((Upd.refl [kb] w2).setCell (p := ⟨kb, 0, none⟩) (Value.bool ov) (by simp))
      have hB4 := blk_set0 hB3 ov
      have hlen4 : rdLen (w2.setCell ⟨kb, 0, none⟩ (Value.bool ov)) rd = (Value.int .u8 2 :: (leV 4 b ++ (.int .u8 0 :: rest))).length := by obtain ⟨ao4, hR4, _⟩ := hK4; exact hR4.len
      clear hR2' hU2' hI2' hU23 hI23 hK3
      go_roundw
      case rel => exact .inr (.inl ⟨hK4, hB4⟩)
      case measure => rw [hlen4, hlen, hinf]; simp
    · have hO := ho.step hI hkl
      have hlen := hR.len
      go_wp2_with (first
        | (go_at_call 73; (refine (rdUVarInt rd bf d ao1 2 (.inr (.inr rfl)) _ _ hR).mono ?_); rintro e w1 ⟨rfl, ao2, hR2, hU2, hI2⟩; have hB2 := hU2.at hB hO.not; have hO2 := hO.step hI2 (Nat.lt_of_lt_of_le hkl hU.size))
        | (go_at_call 75; (refine (rdInt32 rd bf d ao2 b hb _ _ hR2).mono ?_); rintro e w2 ⟨rfl, ao3, hR3, hU3, hI3⟩; have hB3 := hU3.at hB2 hO2.not; obtain ⟨q0, q1, q2, q3, qf⟩ := blk_cells hB3; have f0 := qf 1))
      have hU23 : Upd (kb :: rdF rd bf ao) w w2 := (ReadsK.trans hU hI (ReadsK.of (Reads.trans hU2 hI2 ⟨ao3, hR3, hU3, hI3⟩))).choose_spec.2.1
      have hI23 : In (bk ao) w.heap.size ao3 := (hI.step hI2 hU.size).step hI3 (Nat.le_trans hU.size hU2.size)
      have hK3 : ReadsK w w2 kb rd bf d ao (.int .u8 0 :: rest) := ⟨ao3, hR3, hU23, hI23⟩
      have hK4 := hK3.put hkl ho ((Upd.refl [kb] w2).setCell (p := ⟨kb, 1, none⟩) (Value.int .i64 b) (by simp))
      have hB4 := blk_set1 hB3 b
      have hlen4 : rdLen (w2.setCell ⟨kb, 1, none⟩ (Value.int .i64 b)) rd = (Value.int .u8 0 :: rest).length := by obtain ⟨ao4, hR4, _⟩ := hK4; exact hR4.len
      clear hU23 hI23 hK3
      go_roundw
      case rel => exact .inr (.inr ⟨hK4, hB4⟩)
      case measure => rw [hlen4, hlen]; simp [leV_len]; omega
    · have hO := ho.step hI hkl
      go_wp2_with (go_at_call 73; (refine (rdUVarInt rd bf d ao1 0 (.inl rfl) _ _ hR).mono ?_); rintro e w1 ⟨rfl, ao2, hR2, hU2, hI2⟩; have hB2 := hU2.at hB hO.not)
      go_ret
      exact ⟨rfl, hB2, ReadsK.trans hU hI (ReadsK.of ⟨ao2, hR2, hU2, hI2⟩)⟩
set_option maxRecDepth 100000 in
set_option maxHeartbeats 400000 in
theorem checkRows0 (w : World) : Calls Tryz.prog 77 #[.int .i64 0] w fun e w' => e = .returned .nilIface ∧ w' = w := by
  go_enter Tryz.func77, Tryz.ntmps77
  go_wp2
  go_ret
  exact ⟨rfl, rfl⟩
set_option maxRecDepth 100000 in
set_option maxHeartbeats 400000 in
theorem blockEnd (kb : Nat) (ov : Bool) (b c r : Int) (w : World) (hk : w.heap[kb]? = some (blkC ov b c r)) : Calls Tryz.prog 23 #[.pointer (some ⟨kb, 0, none⟩)] w fun e w' => e = .returned (.bool (decide (c = 0) && decide (r = 0))) ∧ w' = w := by
  obtain ⟨q0, q1, q2, q3, qf⟩ := blk_cells hk
  clear q0 q1 qf hk
  by_cases hc : c = 0
  · by_cases hr : r = 0
    · go_enter Tryz.func23, Tryz.ntmps23
      go_wp2
      go_ret
      exact ⟨by simp [hc, hr], rfl⟩
    · go_enter Tryz.func23, Tryz.ntmps23
      go_wp2
      go_ret
      exact ⟨by simp [hc, hr], rfl⟩
  · go_enter Tryz.func23, Tryz.ntmps23
    go_wp2
    go_ret
    exact ⟨by simp [hc], rfl⟩
set_option maxRecDepth 100000 in
set_option maxHeartbeats 1000000 in
theorem DecodeRawBlock0 (kb rd bf d : Nat) (ao : Option Addr) (ov : Bool) (b v : Int) (tgt : Value) (w : World) (h : Rdr w rd bf d ao [.int .u8 0, .int .u8 0]) (hk : w.heap[kb]? = some (blkC ov b 0 0)) (ho : Off kb rd bf d ao) :
    Calls Tryz.prog 35 #[.pointer (some ⟨kb, 0, none⟩), .pointer (some ⟨rd, 0, none⟩), .int .i64 v, tgt] w fun e w' => e = .returned .nilIface ∧ w'.heap[kb]? = some (blkC ov b 0 0) ∧ ReadsK w w' kb rd bf d ao [] := by
  have hkl := lt_of_block hk
  go_enter Tryz.func35, Tryz.ntmps35
  go_wp2_with (first
    | (go_at_call 76; (refine (rdInt rd bf d ao _ _ h).mono ?_); rintro e w1 ⟨rfl, ao1, hR1, hU1, hI1⟩; have hB1 := hU1.at hk ho.not; obtain ⟨q0, q1, q2, q3, qf⟩ := blk_cells hB1; have f2 := qf 2; clear q0 q1 q3 qf; have hO1 := ho.step hI1 hkl; have hR2 := hR1.keptK ((Upd.refl [kb] w1).setCell (p := ⟨kb, 2, none⟩) (Value.int .i64 0) (by simp)) hO1; have hB2 := blk_set2 hB1 0)
    | (go_at_call 76; (refine (rdInt rd bf d ao1 _ _ hR2).mono ?_); rintro e w3 ⟨rfl, ao3, hR3, hU3, hI3⟩; have hB3 := hU3.at hB2 hO1.not; obtain ⟨p0, p1, p2, p3, pf⟩ := blk_cells hB3; have g3 := pf 3; clear p0 p1 p2 pf; have hB4 := blk_set3 hB3 0)
    | (go_at_call 77; (refine (checkRows0 _).mono ?_); rintro e w5 ⟨rfl, rfl⟩)
    | (go_at_call 23; (refine (blockEnd kb ov b 0 0 _ hB4).mono ?_); rintro e w6 ⟨rfl, rfl⟩))
  go_ret
  refine ⟨rfl, hB4, ?_⟩
  have hs2 : (w1.setCell ⟨kb, 2, none⟩ (Value.int .i64 0)).heap.size = w1.heap.size := World.size_setCell _ _ _
  have k1 : ReadsK w _ kb rd bf d ao _ := (ReadsK.of ⟨ao1, hR1, hU1, hI1⟩).put hkl ho ((Upd.refl [kb] w1).setCell (p := ⟨kb, 2, none⟩) (Value.int .i64 0) (by simp))
  have u2 : Upd (kb :: rdF rd bf ao) w (w1.setCell ⟨kb, 2, none⟩ (Value.int .i64 0)) := (hU1.mono (fun x hx => .inl (List.mem_cons_of_mem _ hx))).setCell _ (by simp)
  have k3 := ReadsK.trans u2 hI1 (ReadsK.of (k := kb) ⟨ao3, hR3, hU3, hI3⟩)
  exact k3.put hkl ho ((Upd.refl [kb] _).setCell _ (by simp))
set_option maxRecDepth 100000 in
set_option maxHeartbeats 1000000 in
theorem DecodeBlock0 (kb rd bf d : Nat) (ao : Option Addr) (ov : Bool) (b v : Int) (hb : -2147483648 ≤ b ∧ b < 2147483648) (tgt : Value) (w : World) (h : Rdr w rd bf d ao (blockV v ov b)) (hk : w.heap[kb]? = some (blkC false 0 0 0)) (ho : Off kb rd bf d ao) :
    Calls Tryz.prog 17 #[.pointer (some ⟨kb, 0, none⟩), .pointer (some ⟨rd, 0, none⟩), .int .i64 v, tgt] w fun e w' => e = .returned .nilIface ∧ w'.heap[kb]? = some (if 51903 ≤ v then blkC ov b 0 0 else blkC false 0 0 0) ∧ ReadsK w w' kb rd bf d ao [] := by
  have hkl := lt_of_block hk
  have hF := FeatIn 51903 v
  unfold blockV at h
  by_cases hv : 51903 ≤ v
  · simp only [if_pos hv] at h ⊢
    go_enter Tryz.func17, Tryz.ntmps17
    go_wp2_with (first
      | (go_at_call 25; (refine (hF _).mono ?_); rintro e w1 ⟨rfl, rfl⟩)
      | (go_at_call 34; (refine (InfoDecode kb rd bf d ao ov b 0 0 hb _ _ h hk ho).mono ?_); rintro e w2 ⟨rfl, hB2, ao2, hR2, hU2, hI2⟩; have hO2 := ho.step hI2 hkl)
      | (go_at_call 35; (refine (DecodeRawBlock0 kb rd bf d ao2 ov b v tgt _ hR2 hB2 hO2).mono ?_); rintro e w3 ⟨rfl, hB3, hK3⟩))
    go_ret
    exact ⟨rfl, hB3, ReadsK.trans hU2 hI2 hK3⟩
  · simp only [if_neg hv, List.nil_append] at h ⊢
    go_enter Tryz.func17, Tryz.ntmps17
    go_wp2_with (first
      | (go_at_call 25; (refine (hF _).mono ?_); rintro e w1 ⟨rfl, rfl⟩)
      | (go_at_call 35; (refine (DecodeRawBlock0 kb rd bf d ao false 0 v tgt _ h hk ho).mono ?_); rintro e w3 ⟨rfl, hB3, hK3⟩))
    go_ret
    exact ⟨rfl, hB3, hK3⟩
end Go.Proofs.YtjhhjldonekmpaaGreatDoor
