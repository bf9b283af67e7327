/- A block without columns is encoded. -/
import Derived.Test.YtjhhjldonekmpaaGreatDoorBkPut
namespace Go.Proofs.YtjhhjldonekmpaaGreatDoor
open Go Go.RowKit
theorem newBufB (w : World) : Hold (w.alloc (.cells #[.slice none 0 0] 46)) w.heap.size 46 5 1 none 0 0 [] := ⟨heap_alloc_new _ _, Row.nil, by simp⟩
/-- a buffer behind some puts -/
structure Gr (w0 : World) (bp : Nat) (ao0 : Option Addr) (w : World) (ao : Option Addr) (n c : Nat) (ys : List Value) : Prop where
  hold : Hold w bp 46 5 1 ao n c ys
  upd : Upd (bp :: bk ao0) w0 w
  inn : In (bk ao0) w0.heap.size ao
theorem Gr.start {w : World} {bp : Nat} {ao : Option Addr} {n c : Nat} {ys : List Value} (h : Hold w bp 46 5 1 ao n c ys) : Gr w bp ao w ao n c ys := ⟨h, Upd.refl _ _, In.self (fun _ h => h)⟩
theorem Gr.step {w0 w w' : World} {bp : Nat} {ao0 ao ao' : Option Addr} {n c n' c' : Nat} {ys ys' : List Value} (h : Gr w0 bp ao0 w ao n c ys)
    (k : Hold w' bp 46 5 1 ao' n' c' ys') (u : Upd (bp :: bk ao) w w') (i : In (bk ao) w.heap.size ao') : Gr w0 bp ao0 w' ao' n' c' ys' :=
  ⟨k, h.upd.trans u (fun y hy => by
    rcases List.mem_cons.1 hy with e | e
    · exact .inl (by rw [e]; exact List.mem_cons_self)
    · rcases h.inn y e with e | e
      · exact .inl (List.mem_cons_of_mem _ e)
      · exact .inr e), h.inn.step i h.upd.size⟩
/-- behind an allocation ahead of it -/
theorem Gr.grew {w0 w1 w : World} {bp : Nat} {ao0 ao : Option Addr} {n c : Nat} {ys : List Value} (h : Gr w1 bp ao0 w ao n c ys) (u : Upd [] w0 w1) : Grew w0 w bp 46 5 1 ao0 n ys :=
  ⟨ao, c, h.hold, (u.mono (by simp)).trans h.upd (fun _ h => .inl h), h.inn.le u.size⟩
/-- the bytes of what is told of a block -/
def infoV (ov : Bool) (b : Int) : List Value := [.int .u8 1, bitV ov, .int .u8 2] ++ leV 4 b ++ [.int .u8 0]
theorem infoV_len (ov : Bool) (b : Int) : (infoV ov b).length = 8 := by simp [infoV, leV_len]
theorem bitV_bytes (b : Bool) : AllBytes [bitV b] := by
  intro u hu
  simp at hu
  subst hu
  cases b
  · exact ⟨0, rfl, by omega, by omega⟩
  · exact ⟨1, rfl, by omega, by omega⟩
theorem one_bytes (x : Int) (h0 : 0 ≤ x) (h1 : x < 256) : AllBytes [Value.int .u8 x] := by
  intro u hu
  simp at hu
  subst hu
  exact ⟨x, rfl, h0, h1⟩
theorem infoV_bytes (ov : Bool) (b : Int) : AllBytes (infoV ov b) :=
  ((((one_bytes 1 (by omega) (by omega)).append (bitV_bytes ov)).append (one_bytes 2 (by omega) (by omega))).append (leV_bytes 4 b)).append (one_bytes 0 (by omega) (by omega))
set_option maxRecDepth 100000 in
set_option maxHeartbeats 1000000 in
theorem InfoEncode (bp : Nat) (ao : Option Addr) (m cp : Nat) (bs : List Value) (ov : Bool) (b : Int) (w : World) (h : Hold w bp 46 5 1 ao m cp bs) (hm : m ≤ 100000) (hb : -2147483648 ≤ b ∧ b < 2147483648) :
    Calls Tryz.prog 26 #[.agg #[.bool ov, .int .i64 b], .pointer (some ⟨bp, 0, none⟩)] w fun e w' => e = .returned (.tuple #[]) ∧ Grew w w' bp 46 5 1 ao (m + 8) (bs ++ infoV ov b) := by
  obtain ⟨k1, u1, s1⟩ := alloc_facts w (Obj.cells #[.bool ov, .int .i64 b] 50)
  have hG0 := Gr.start (h.kept u1 (by simp) (by simp))
  have hlt := h.lt
  have hbl := h.own.lt
  have hnb : w.heap.size ∉ bp :: bk ao := fun hx => by
    rcases List.mem_cons.1 hx with e | e
    · omega
    · have := hbl _ e; omega
  have p0 : (w.alloc (Obj.cells #[.bool ov, .int .i64 b] 50)).cell? ⟨w.heap.size, 0, none⟩ = some (.bool ov) := (cellAt k1 0).trans rfl
  have p1 : (w.alloc (Obj.cells #[.bool ov, .int .i64 b] 50)).cell? ⟨w.heap.size, 1, none⟩ = some (.int .i64 b) := (cellAt k1 1).trans rfl
  have hwb : IntKind.i32.wrap b = b := by simp only [IntKind.wrap_i32]; omega
  go_enter Tryz.func26, Tryz.ntmps26
  go_wp2_with (first
    | (go_at_call 66; (with_reducible refine (PutUVarInt1 bp _ _ _ _ 1 _ hG0.hold (by decide) (by decide) (by omega)).mono ?_); rintro e w1 ⟨rfl, ao1, c1, hH1, hU1, hI1⟩; have hG1 := hG0.step hH1 hU1 hI1; have q0 := hG1.upd.cell1 p0 hnb)
    | (go_at_call 67; (with_reducible refine (PutBool bp _ _ _ _ ov _ hG1.hold (by omega)).mono ?_); rintro e w2 ⟨rfl, ao2, c2, hH2, hU2, hI2⟩; have hG2 := hG1.step hH2 hU2 hI2)
    | (go_at_call 66; (with_reducible refine (PutUVarInt1 bp _ _ _ _ 2 _ hG2.hold (by decide) (by decide) (by omega)).mono ?_); rintro e w3 ⟨rfl, ao3, c3, hH3, hU3, hI3⟩; have hG3 := hG2.step hH3 hU3 hI3; have q1 := hG3.upd.cell1 p1 hnb)
    | (go_at_call 68; (with_reducible refine (PutInt32 bp _ _ _ _ b _ hG3.hold (by omega)).mono ?_); rintro e w4 ⟨rfl, ao4, c4, hH4, hU4, hI4⟩; have hG4 := hG3.step hH4 hU4 hI4)
    | (go_at_call 66; (with_reducible refine (PutUVarInt1 bp _ _ _ _ 0 _ hG4.hold (by decide) (by decide) (by omega)).mono ?_); rintro e w5 ⟨rfl, ao5, c5, hH5, hU5, hI5⟩; have hG5 := hG4.step hH5 hU5 hI5))
  go_end0
  refine ⟨rfl, ?_⟩
  have := hG5.grew u1
  simpa [infoV, Nat.add_assoc] using this
set_option maxRecDepth 100000 in
set_option maxHeartbeats 400000 in
theorem FeatIn (f v : Int) (w : World) : Calls Tryz.prog 25 #[.int .i64 f, .int .i64 v] w fun e w' => e = .returned (.bool (decide (f ≤ v))) ∧ w' = w := by
  go_enter Tryz.func25, Tryz.ntmps25
  go_wp2
  go_ret
  exact ⟨by simp, rfl⟩
/-- the bytes of a block without columns -/
def blockV (v : Int) (ov : Bool) (b : Int) : List Value := (if 51903 ≤ v then infoV ov b else []) ++ [.int .u8 0, .int .u8 0]
theorem blockV_bytes (v : Int) (ov : Bool) (b : Int) : AllBytes (blockV v ov b) := by
  unfold blockV
  refine AllBytes.append ?_ ((one_bytes 0 (by omega) (by omega)).append (one_bytes 0 (by omega) (by omega)))
  split
  · exact infoV_bytes _ _
  · exact AllBytes.nil
theorem blockV_len (v : Int) (ov : Bool) (b : Int) : (blockV v ov b).length = (if 51903 ≤ v then 10 else 2) := by
  unfold blockV
  split <;> simp [infoV_len]
/-- a Block -/
def blkV (ov : Bool) (b c r : Int) : Value := .agg #[.bool ov, .int .i64 b, .int .i64 c, .int .i64 r]
set_option maxRecDepth 100000 in
set_option maxHeartbeats 1000000 in
theorem EncodeRawBlock0 (bp : Nat) (ao : Option Addr) (m cp : Nat) (bs : List Value) (ov : Bool) (b v : Int) (w : World) (h : Hold w bp 46 5 1 ao m cp bs) (hm : m ≤ 100000) :
    Calls Tryz.prog 27 #[blkV ov b 0 0, .pointer (some ⟨bp, 0, none⟩), .int .i64 v, .slice none 0 0] w fun e w' => e = .returned .nilIface ∧ Grew w w' bp 46 5 1 ao (m + 2) (bs ++ [.int .u8 0, .int .u8 0]) := by
  obtain ⟨k1, u1, s1⟩ := alloc_facts w (Obj.cells #[.bool ov, .int .i64 b, .int .i64 0, .int .i64 0] 52)
  have hG0 := Gr.start (h.kept u1 (by simp) (by simp))
  have hlt := h.lt
  have hbl := h.own.lt
  have hnb : w.heap.size ∉ bp :: bk ao := fun hx => by
    rcases List.mem_cons.1 hx with e | e
    · omega
    · have := hbl _ e; omega
  have p2 : (w.alloc (Obj.cells #[.bool ov, .int .i64 b, .int .i64 0, .int .i64 0] 52)).cell? ⟨w.heap.size, 2, none⟩ = some (.int .i64 0) := (cellAt k1 2).trans rfl
  have p3 : (w.alloc (Obj.cells #[.bool ov, .int .i64 b, .int .i64 0, .int .i64 0] 52)).cell? ⟨w.heap.size, 3, none⟩ = some (.int .i64 0) := (cellAt k1 3).trans rfl
  go_enter Tryz.func27, Tryz.ntmps27
  simp only [blkV]
  go_wp2_with (first
    | (go_at_call 69; (with_reducible refine (PutInt1 bp _ _ _ _ 0 _ hG0.hold (by decide) (by decide) (by omega)).mono ?_); rintro e w1 ⟨rfl, ao1, c1, hH1, hU1, hI1⟩; have hG1 := hG0.step hH1 hU1 hI1; have q3 := hG1.upd.cell1 p3 hnb)
    | (go_at_call 69; (with_reducible refine (PutInt1 bp _ _ _ _ 0 _ hG1.hold (by decide) (by decide) (by omega)).mono ?_); rintro e w2 ⟨rfl, ao2, c2, hH2, hU2, hI2⟩; have hG2 := hG1.step hH2 hU2 hI2))
  go_loopw [27] (fun i wr => i = .int .i64 0 ∧ wr = w2) (fun _ _ => 0)
  case atStart => exact ⟨rfl, rfl⟩
  case round =>
    obtain ⟨rfl, hw⟩ := hrel
    go_wp2
    go_ret
    refine ⟨rfl, ?_⟩
    have := hG2.grew u1
    simpa [Nat.add_assoc] using this
set_option maxRecDepth 100000 in
set_option maxHeartbeats 1000000 in
theorem EncodeBlock0 (bp : Nat) (ao : Option Addr) (m cp : Nat) (bs : List Value) (ov : Bool) (b v : Int) (w : World) (h : Hold w bp 46 5 1 ao m cp bs) (hm : m ≤ 10000) (hb : -2147483648 ≤ b ∧ b < 2147483648) :
    Calls Tryz.prog 14 #[blkV ov b 0 0, .pointer (some ⟨bp, 0, none⟩), .int .i64 v, .slice none 0 0] w fun e w' => e = .returned .nilIface ∧ Grew w w' bp 46 5 1 ao (m + (blockV v ov b).length) (bs ++ blockV v ov b) := by
  obtain ⟨k1, u1, s1⟩ := alloc_facts w (Obj.cells #[.bool ov, .int .i64 b, .int .i64 0, .int .i64 0] 52)
  have hG0 := Gr.start (h.kept u1 (by simp) (by simp))
  have hlt := h.lt
  have hbl := h.own.lt
  have hnb : w.heap.size ∉ bp :: bk ao := fun hx => by
    rcases List.mem_cons.1 hx with e | e
    · omega
    · have := hbl _ e; omega
  have hl1 : w.heap.size < (w.alloc (Obj.cells #[.bool ov, .int .i64 b, .int .i64 0, .int .i64 0] 52)).heap.size := by simp
  have r0 : (w.alloc (Obj.cells #[.bool ov, .int .i64 b, .int .i64 0, .int .i64 0] 52)).rangeAt w.heap.size 0 [.bool ov, .int .i64 b, .int .i64 0, .int .i64 0] := rangeAt_blk k1
  have r0' : (w.alloc (Obj.cells #[.bool ov, .int .i64 b, .int .i64 0, .int .i64 0] 52)).rangeAt w.heap.size 0 [.bool ov, .int .i64 b] := fun j v hj => by
    refine r0 j v ?_
    match j, hj with
    | 0, hj => exact hj
    | 1, hj => exact hj
  clear k1
  by_cases hv : 51903 ≤ v
  · have hF := FeatIn 51903 v
    go_enter Tryz.func14, Tryz.ntmps14
    simp only [blkV]
    go_wp2_with (first
      | (go_at_call 25; (refine (hF _).mono ?_); rintro e w1 ⟨rfl, rfl⟩)
      | ((with_reducible show wpList _ _ _ _ _ _); refine wpList_load_mid rfl 50 (.tmp 12) rfl w.heap.size 0 rfl [.bool ov, .int .i64 b] _ r0' Tryz.underlying50 rfl (by kernel_rfl) ?_)
      | (go_at_call 26; (with_reducible refine (InfoEncode bp _ _ _ _ ov b _ hG0.hold (by omega) hb).mono ?_); rintro e w2 ⟨rfl, ao2, c2, hH2, hU2, hI2⟩; have hG2 := hG0.step hH2 hU2 hI2; have r2 := hG2.upd.range r0 hl1 hnb)
      | ((with_reducible show wpList _ _ _ _ _ _); refine wpList_load_mid rfl 52 (.tmp 4) rfl w.heap.size 0 rfl [.bool ov, .int .i64 b, .int .i64 0, .int .i64 0] _ r2 Tryz.underlying52 rfl (by kernel_rfl) ?_)
      | (go_at_call 27; (refine (EncodeRawBlock0 bp _ _ _ _ ov b v _ hG2.hold (by omega)).mono ?_); rintro e w3 ⟨rfl, ao3, c3, hH3, hU3, hI3⟩; have hG3 := hG2.step hH3 hU3 hI3))
    go_ret
    refine ⟨rfl, ?_⟩
    have := hG3.grew u1
    rw [show blockV v ov b = infoV ov b ++ [.int .u8 0, .int .u8 0] from by simp only [blockV, if_pos hv]]
    simpa [infoV_len, Nat.add_assoc] using this
  · have hF := FeatIn 51903 v
    go_enter Tryz.func14, Tryz.ntmps14
    simp only [blkV]
    go_wp2_with (first
      | (go_at_call 25; (refine (hF _).mono ?_); rintro e w1 ⟨rfl, rfl⟩)
      | ((with_reducible show wpList _ _ _ _ _ _); refine wpList_load_mid rfl 52 (.tmp 4) rfl w.heap.size 0 rfl [.bool ov, .int .i64 b, .int .i64 0, .int .i64 0] _ r0 Tryz.underlying52 rfl (by kernel_rfl) ?_)
      | (go_at_call 27; (refine (EncodeRawBlock0 bp _ _ _ _ ov b v _ hG0.hold (by omega)).mono ?_); rintro e w3 ⟨rfl, ao3, c3, hH3, hU3, hI3⟩; have hG3 := hG0.step hH3 hU3 hI3))
    go_ret
    refine ⟨rfl, ?_⟩
    have := hG3.grew u1
    rw [show blockV v ov b = [.int .u8 0, .int .u8 0] from by simp only [blockV, if_neg (show ¬ 51903 ≤ v by omega), List.nil_append]]
    simpa [Nat.add_assoc] using this
/-- a head -/
def headV (ov : Bool) (b c r : Int) : Value := .agg #[.bool ov, .int .i64 b, .int .i64 c, .int .i64 r]
set_option maxRecDepth 100000 in
set_option maxHeartbeats 400000 in
theorem inputs0 (w : World) : Calls Tryz.prog 12 #[.slice none 0 0] w fun e w' => e = .returned (.tuple #[.slice none 0 0, .bool true]) ∧ w' = w := by
  go_enter Tryz.func12, Tryz.ntmps12
  go_wp2
  go_loopw [4, 10] (fun s i wr => s = .slice none 0 0 ∧ i = .int .i64 0 ∧ wr = w) (fun _ _ _ => 0)
  case atStart => exact ⟨rfl, rfl, rfl⟩
  case round =>
    obtain ⟨rfl, rfl, hw⟩ := hrel
    go_wp2
    refine bodyPost_ret (results_tmp2 Tryz.results12 _ _ _) rfl ⟨by first | rfl | simp, ?_⟩
    first | exact hw | rfl
theorem wpList_load_midG {P : Program} {ops : Array Oper} {rest : List Oper} {op : Oper} {a : Act} {w : World} {Q : Exit → Act → World → Prop} (hw : Region.wanted op (yielded ops a.tmps) = true) (ty : TypeId) (x : Operand) (ho : op.op = .load ty x)
    (b o : Nat) (hx : a.eval x = .pointer (some ⟨b, o, none⟩)) (cs : List Value) (d : TypeDesc) (hc : w.rangeAt b o cs)
    (hu : P.underlying ty = some d) (hd : d.isRow = true) (hi : (P.info? ty).map (·.size) = some cs.length)
    (h : wpList P ops Q rest (a.put op.dst (.agg cs.toArray)) w) : wpList P ops Q (op :: rest) a w :=
  wpList_step fun K hK => by
    rw [if_pos hw]
    exact wp_load_mid ty x ho b o hx cs d hc hu hd hi (hK _ _ h)
set_option maxRecDepth 100000 in
set_option maxHeartbeats 1000000 in
theorem block_of (ov : Bool) (b c r : Int) (w : World) : Calls Tryz.prog 13 #[headV ov b c r] w fun e w' => e = .returned (blkV ov b c r) ∧ Upd [] w w' := by
  obtain ⟨k1, u1, s1⟩ := alloc_facts w (Obj.cells #[.bool ov, .int .i64 b, .int .i64 c, .int .i64 r] 25)
  obtain ⟨k2, u2, s2⟩ := alloc_facts (w.alloc (Obj.cells #[.bool ov, .int .i64 b, .int .i64 c, .int .i64 r] 25)) (Obj.cells #[.bool false, .int .i64 0, .int .i64 0, .int .i64 0] 52)
  have k1' := u2.at k1 (by simp)
  rw [s1] at k2
  have p0 : ((w.alloc (Obj.cells #[.bool ov, .int .i64 b, .int .i64 c, .int .i64 r] 25)).alloc (Obj.cells #[.bool false, .int .i64 0, .int .i64 0, .int .i64 0] 52)).cell? ⟨w.heap.size, 0, none⟩ = some (.bool ov) := (cellAt k1' 0).trans rfl
  have p1 : ((w.alloc (Obj.cells #[.bool ov, .int .i64 b, .int .i64 c, .int .i64 r] 25)).alloc (Obj.cells #[.bool false, .int .i64 0, .int .i64 0, .int .i64 0] 52)).cell? ⟨w.heap.size, 1, none⟩ = some (.int .i64 b) := (cellAt k1' 1).trans rfl
  have p2 : ((w.alloc (Obj.cells #[.bool ov, .int .i64 b, .int .i64 c, .int .i64 r] 25)).alloc (Obj.cells #[.bool false, .int .i64 0, .int .i64 0, .int .i64 0] 52)).cell? ⟨w.heap.size, 2, none⟩ = some (.int .i64 c) := (cellAt k1' 2).trans rfl
  have p3 : ((w.alloc (Obj.cells #[.bool ov, .int .i64 b, .int .i64 c, .int .i64 r] 25)).alloc (Obj.cells #[.bool false, .int .i64 0, .int .i64 0, .int .i64 0] 52)).cell? ⟨w.heap.size, 3, none⟩ = some (.int .i64 r) := (cellAt k1' 3).trans rfl
  go_enter Tryz.func13, Tryz.ntmps13
  simp only [headV]
  go_wp2_with ((with_reducible show wpList _ _ _ _ _ _); refine wpList_store_blk rfl 52 (.tmp 2) (.tmp 12) rfl (b := w.heap.size + 1) rfl k2 (cs := [.bool ov, .int .i64 b, .int .i64 c, .int .i64 r]) rfl rfl (by kernel_rfl) (by simp [Value.oneCell']) ?_; intro w4 hb4 hu4; simp only [Act.put])
  refine bodyPost_ret (v := blkV ov b c r) (results_cell1 Tryz.results13 (b := w.heap.size + 1) rfl (run_loadVar_mid w4 (w.heap.size + 1) 0 52 [.bool ov, .int .i64 b, .int .i64 c, .int .i64 r] _ (rangeAt_blk hb4) Tryz.underlying52 rfl (by kernel_rfl))) rfl ⟨rfl, ?_⟩
  exact (u1.trans u2 (fun _ h => .inl h)).trans hu4 (fun y hy => by simp at hy; exact .inr (by omega))
set_option maxRecDepth 100000 in
set_option maxHeartbeats 1000000 in
theorem BKEncode0 (ov : Bool) (b v : Int) (w : World) (hb : -2147483648 ≤ b ∧ b < 2147483648) :
    Calls Tryz.prog 6 #[headV ov b 0 0, .int .i64 v, .slice none 0 0] w fun e w' => ∃ g c, e = .returned (.tuple #[.slice (some ⟨g, 0, none⟩) (blockV v ov b).length c, .bool true]) ∧
      Row w' 5 1 (some ⟨g, 0, none⟩) (blockV v ov b).length c (blockV v ov b) ∧ Upd [] w w' ∧ w.heap.size ≤ g := by
  obtain ⟨k1, u1, s1⟩ := alloc_facts w (Obj.cells #[.bool ov, .int .i64 b, .int .i64 0, .int .i64 0] 25)
  obtain ⟨k2, u2, s2⟩ := alloc_facts (w.alloc (Obj.cells #[.bool ov, .int .i64 b, .int .i64 0, .int .i64 0] 25)) (Obj.cells #[.slice none 0 0] 46)
  have hB := newBufB (w.alloc (Obj.cells #[.bool ov, .int .i64 b, .int .i64 0, .int .i64 0] 25))
  rw [s1] at hB
  have r0 : ((w.alloc (Obj.cells #[.bool ov, .int .i64 b, .int .i64 0, .int .i64 0] 25)).alloc (Obj.cells #[.slice none 0 0] 46)).rangeAt w.heap.size 0 [.bool ov, .int .i64 b, .int .i64 0, .int .i64 0] := rangeAt_blk (u2.at k1 (by simp))
  have u12 := u1.trans u2 (fun _ h => .inl h)
  have hpos : 0 < (blockV v ov b).length := by rw [blockV_len]; split <;> omega
  obtain ⟨N, hN⟩ : ∃ N, N = (blockV v ov b).length := ⟨_, rfl⟩
  rw [← hN] at hpos
  have HN := Lib.hid hN
  clear hN k1 u1 k2 u2 s2
  go_enter Tryz.func6, Tryz.ntmps6
  simp only [headV]
  go_wp2_with (first
    | (go_at_call 12; (refine (inputs0 _).mono ?_); rintro e w1 ⟨rfl, rfl⟩)
    | ((with_reducible show wpList _ _ _ _ _ _); refine wpList_load_midG (by rfl) 25 (.tmp 3) rfl w.heap.size 0 rfl [.bool ov, .int .i64 b, .int .i64 0, .int .i64 0] _ r0 Tryz.underlying25 rfl (by kernel_rfl) ?_)
    | (go_at_call 13; (refine (block_of ov b 0 0 _).mono ?_); rintro e w2 ⟨rfl, hu2⟩; have hB2 := hB.kept hu2 (by simp) (by simp))
    | (go_at_call 14; (refine (EncodeBlock0 _ _ _ _ _ ov b v _ hB2 (by omega) hb).mono ?_); rintro e w3 ⟨rfl, ao3, c3, hH3, hU3, hI3⟩; have q3 := hH3.cell; rw [List.nil_append, Nat.zero_add] at hH3 ; rw [Nat.zero_add] at q3))
  have hH4 := hH3.own
  rw [← HN.out] at hH4
  obtain ⟨g, rfl⟩ := hH4.head hpos
  refine bodyPost_ret (results_tmp2 Tryz.results6 _ _ _) rfl ⟨g, c3, by first | rfl | simp, by rw [← HN.out]; exact hH4, (u12.trans hu2 (fun _ h => .inl h)).trans hU3 (fun y hy => by simp at hy; exact .inr (by omega)), ?_⟩
  rcases hI3 g (by simp) with h | h
  · simp at h
  · have := u12.size; have := hu2.size; omega
end Go.Proofs.YtjhhjldonekmpaaGreatDoor
