/- impl.inputs over columns of any kinds; columns' heads in a buffer. -/
import Derived.Test.YtfbohkbpgfnceaaGreatDoorKW
namespace Go.Proofs.YtfbohkbpgfnceaaGreatDoor
set_option linter.unusedVariables false
set_option linter.unusedSimpArgs false
open Go Go.RowKit
/-- a column of a block: its name, its kind, its rows, and where these stand -/
structure Bc where
  nm : ByteArray
  K : Kd
  rs : List R4
  ar : Option Addr
  cp : Nat
def Bc.cells (b : Bc) : List Value := [.string b.nm, .int .i64 b.K.kind, .slice b.ar b.rs.length b.cp]
theorem Bc.cells_len (b : Bc) : b.cells.length = 3 := rfl
/-- columns, as an argument holds them -/
structure Bcs (w : World) (ac : Option Addr) (bs : List Bc) : Prop where
  view : View w 3 ac bs.length (bs.flatMap Bc.cells)
  rows : ∀ b ∈ bs, View w 4 b.ar b.rs.length (b.rs.flatMap R4.cells)
theorem Bcs.upd {w w' : World} {ac : Option Addr} {bs : List Bc} (h : Bcs w ac bs) (hu : Upd [] w w') : Bcs w' ac bs := ⟨h.view.upd hu (by simp), fun b hb => (h.rows b hb).upd hu (by simp)⟩
/-- what is asked of a column -/
structure OkB (b : Bc) : Prop where
  ok : KdOK b.K
  rok : ∀ r ∈ b.rs, Ok4 r
  r0 : 0 < b.rs.length
  r1 : b.rs.length ≤ 20
  n1 : b.nm.size ≤ 40
/-- the column of q.1, filled, stands at q.2, and all of it from B on -/
def Full (w : World) (B : Nat) (q : Bc × Nat) : Prop := ∃ ao c, q.1.K.Held w q.2 ao q.1.rs.length c q.1.rs ∧ B ≤ q.2 ∧ In [] B ao
theorem Full.upd {w w' : World} {B : Nat} {q : Bc × Nat} (h : Full w B q) (hu : Upd [] w w') : Full w' B q := by
  obtain ⟨ao, c, h1, h2, h3⟩ := h
  exact ⟨ao, c, h1.kept hu (by simp) (by simp), h2, h3⟩
def inCells (q : Bc × Nat) : List Value := [.string q.1.nm, .iface q.1.K.tI (q.1.K.V q.2)]
theorem inCells_len (q : Bc × Nat) : (inCells q).length = 2 := rfl
/-- and shares nothing with the slice ao -/
def FullA (w : World) (B : Nat) (ao : Option Addr) (q : Bc × Nat) : Prop := ∃ aq c, q.1.K.Held w q.2 aq q.1.rs.length c q.1.rs ∧ B ≤ q.2 ∧ In [] B aq ∧ q.2 ∉ bk ao ∧ ∀ y, y ∈ bk aq → y ∉ bk ao
theorem FullA.full {w : World} {B : Nat} {ao : Option Addr} {q : Bc × Nat} (h : FullA w B ao q) : Full w B q := by
  obtain ⟨aq, c, h1, h2, h3, _⟩ := h
  exact ⟨aq, c, h1, h2, h3⟩
theorem FullA.upd {w w' : World} {B : Nat} {ao : Option Addr} {q : Bc × Nat} (h : FullA w B ao q) (hu : Upd [] w w') : FullA w' B ao q := by
  obtain ⟨aq, c, h1, h2, h3, h4, h5⟩ := h
  exact ⟨aq, c, h1.kept hu (by simp) (by simp), h2, h3, h4, h5⟩
theorem FullA.step {w w' : World} {B : Nat} {ao ao' : Option Addr} {q : Bc × Nat} (h : FullA w B ao q) (hu : Upd (bk ao) w w') (hi : In (bk ao) w.heap.size ao') : FullA w' B ao' q := by
  obtain ⟨aq, c, h1, h2, h3, h4, h5⟩ := h
  have hl := h1.lt
  refine ⟨aq, c, h1.kept hu h4 h5, h2, h3, fun hx => ?_, fun y hy hx => ?_⟩
  · rcases hi _ hx with h | h
    · exact h4 h
    · omega
  · have := h1.own.lt y hy
    rcases hi _ hx with h | h
    · exact h5 y hy h
    · omega
/-- the columns as a block takes them -/
def Inputs (w : World) (bs : List Bc) (e : Ending) (w' : World) : Prop :=
  ∃ (ao : Option Addr) (c : Nat) (qs : List (Bc × Nat)), qs.map Prod.fst = bs ∧ e = .returned (.tuple #[.slice ao bs.length c, .bool true]) ∧ Row w' 78 2 ao bs.length c (qs.flatMap inCells) ∧ (∀ q ∈ qs, Full w' w.heap.size q) ∧ Upd [] w w' ∧ In [] w.heap.size ao
theorem Tryz.info78 : (Tryz.prog.info? 78).map (fun i => (i.zero, i.size, i.bytes)) = some (some (.agg #[.string "".toUTF8, .nilIface]), 2, 32) := by kernel_rfl
theorem cells_at {α : Type} (f : α → List Value) (m : Nat) (hf : ∀ a, (f a).length = m) {w : World} {b o : Nat} {l : List α} (h : w.rangeAt b o (l.flatMap f)) (k : Nat) (hk : k < l.length) (j : Nat) (hj : j < m) : w.cell? ⟨b, o + k * m + j, none⟩ = (f l[k])[j]? := by
  rw [Nat.add_assoc]
  have h1 := flat_get f m l (fun a _ => hf a) k hk j hj
  obtain ⟨u, hu⟩ : ∃ u, (f l[k])[j]? = some u := ⟨(f l[k])[j]'(by rw [hf]; exact hj), by simp⟩
  rw [hu] at h1 ⊢
  exact h _ u h1
set_option maxRecDepth 100000 in
set_option maxHeartbeats 1000000 in
theorem inputs_K (ac : Option Addr) (cc : Nat) (bs : List Bc) (hok : ∀ b ∈ bs, OkB b) (hn : bs.length ≤ 10) (w : World) (hw : Bcs w ac bs) :
    Calls Tryz.prog 13 #[.slice ac bs.length cc] w (Inputs w bs) := by
  obtain ⟨n, hnn⟩ : ∃ n, n = bs.length := ⟨_, rfl⟩
  have hv := hw.view
  rw [← hnn] at hn hv ⊢
  have HN := Lib.hid hnn
  clear hnn
  go_enter Tryz.func13, Tryz.ntmps13
  go_wp2
  go_loopw [4, 10] (fun v i wr => ∃ (k : Nat) (ao : Option Addr) (c : Nat) (qs : List (Bc × Nat)), k ≤ n ∧ i = .int .i64 k ∧ v = .slice ao k c ∧ List.map Prod.fst qs = bs.take k ∧ Row wr 78 2 ao k c (qs.flatMap inCells) ∧ (∀ q ∈ qs, FullA wr w.heap.size ao q) ∧ Upd [] w wr ∧ In [] w.heap.size ao)
    (fun _ i _ => n - (intOf i).toNat)
  case atStart => exact ⟨0, none, 0, [], Nat.zero_le _, rfl, rfl, rfl, Row.nil, by simp, Upd.refl _ _, In.nil⟩
  case round =>
    obtain ⟨k, ao, c, qs, hk, rfl, rfl, hqs, hR, hF, hU, hI⟩ := hrel
    by_cases hlt : k < n
    · have hk0 : ((k : Int) < n) := by omega
      have hkb : k < bs.length := by have := HN.out; omega
      obtain ⟨x, hx⟩ : ∃ x, x = bs[k] := ⟨_, rfl⟩
      have hxm : x ∈ bs := by rw [hx]; exact List.getElem_mem _
      obtain ⟨b, o, rfl, hrr, hbb⟩ := (hv.upd hU (by simp)).at_ (by omega)
      have hcl := cells_at Bc.cells 3 Bc.cells_len hrr k hkb
      rw [← hx] at hcl
      have d0 := hcl 0 (by omega)
      have d1 := hcl 1 (by omega)
      have d2 := hcl 2 (by omega)
      have hO := hok x hxm
      have hK := hO.ok
      have hrv := (hw.upd hU).rows x hxm
      have HX := Lib.hid hx
      clear hx hcl hrr
      have hr20 := hO.r1
      simp only [Bc.cells, Nat.add_zero, List.getElem?_cons_zero, List.getElem?_cons_succ] at d0 d1 d2
      have ea := hK.eAdd
      have hma := hK.mAdd
      obtain ⟨k1, u1, s1⟩ := alloc_facts wr (Obj.cells #[Value.string x.nm, Value.int IntKind.i64 x.K.kind, Value.slice x.ar x.rs.length x.cp] 35)
      obtain ⟨k2, u2, s2⟩ := alloc_facts (wr.alloc (Obj.cells #[Value.string x.nm, Value.int IntKind.i64 x.K.kind, Value.slice x.ar x.rs.length x.cp] 35)) (Obj.cells #[Value.slice none 0 0] x.K.tC)
      have u12 := u1.trans u2 (fun _ h => .inl h)
      have kk := u2.at k1 (by simp)
      rw [s1] at k2 s2
      have hH0 : Hold _ (wr.heap.size + 1) x.K.tC x.K.tE x.K.size none 0 0 [] := ⟨k2, Row.nil, by simp⟩
      have hrw := hrv.upd u12 (by simp)
      have hap : 0 < x.rs.length → Apart x.ar (wr.heap.size + 1) none := fun h0 y hy => by
        obtain ⟨b', o', e', _, hb'⟩ := hrv.at_ h0
        rw [e'] at hy
        simp at hy
        subst hy
        exact ⟨fun e => by omega, by simp⟩
      go_wp2_with (first
        | (go_at_call 23; (with_reducible refine (hK.col _).mono ?_); rintro e w1 ⟨rfl, rfl⟩)
        | ((with_reducible show Calls _ x.K.fAdd _ _ _); go_loud (refine (hK.add _ _ _ _ _ _ _ _ _ _ hrw hH0 hap (by omega) (by omega) hO.rok).mono ?_); rintro e w2 ⟨rfl, ao2, c2, hH2, hU2, hI2⟩; have e0 : w2.cell? ⟨wr.heap.size, 0, none⟩ = some (.string x.nm) := (by have := hU2.at kk (by simp); simp [World.cell?, this]))
        | (at_builtin; (refine wpList_app1 _ rfl _ _ 42 rfl 78 _ 2 32 Tryz.underlying42 Tryz.info78 rfl (by decide) (hR.upd ((u12.mono (by simp)).trans hU2 (fun y hy => by simp at hy; exact .inr (by omega)) : Upd [] wr w2) (by simp)) rfl (inCells (x, wr.heap.size + 1)) rfl rfl rfl (by simp [inCells, Value.oneCell']) (by decide) (by omega) ?_); intro ao3 c3 w3 hown3 hupd3 hin3))
      rw [Nat.zero_add, List.nil_append] at hH2
      have hUw2 : Upd [] wr w2 := (u12.mono (by simp)).trans hU2 (fun y hy => by simp at hy; exact .inr (by omega))
      have hU2w : Upd [] w w2 := hU.trans hUw2 (by simp)
      have hU3 : Upd [] w w3 := hU2w.own hupd3 hI
      have hI3 : In [] w.heap.size ao3 := hI.step hin3 hU2w.size
      have hws := hU.size
      have hF3 : ∀ q ∈ qs ++ [(x, wr.heap.size + 1)], FullA w3 w.heap.size ao3 q := fun q hq => by
        refine FullA.step ?_ hupd3 hin3
        rcases List.mem_append.1 hq with hq | hq
        · exact (hF q hq).upd hUw2
        · simp at hq
          subst hq
          have hlr := hR.lt
          refine ⟨ao2, c2, hH2, by show w.heap.size ≤ wr.heap.size + 1; omega, hI2.mono (by rw [s2]; omega) (by simp), fun hx => ?_, fun y hy hx => ?_⟩
          · have := hlr _ hx
            omega
          · have := hlr _ hx
            rcases hI2 y hy with h | h
            · simp at h
            · omega
      have hR3 : Row w3 78 2 ao3 (k + 1) c3 ((qs ++ [(x, wr.heap.size + 1)]).flatMap inCells) := by
        rw [List.flatMap_append, List.flatMap_singleton]
        exact hown3
      have hqs3 : (qs ++ [(x, wr.heap.size + 1)]).map Prod.fst = bs.take (k + 1) := by
        rw [List.take_succ_eq_append_getElem hkb, ← HX.out, List.map_append, hqs]
        rfl
      go_roundw
      case rel => exact ⟨k + 1, ao3, c3, _, by omega, by go_num, rfl, hqs3, hR3, hF3, hU3, hI3⟩
      case measure => simp [intOf]; omega
    · have hk0 : ¬ ((k : Int) < n) := by omega
      obtain rfl : k = n := by omega
      have hkn := HN.out
      go_wp2
      refine bodyPost_ret (results_tmp2 Tryz.results13 _ _ _) rfl ?_
      refine ⟨ao, c, qs, by rw [hqs, List.take_of_length_le (by omega)], by rw [← hkn]; rfl, by rw [← hkn]; exact hR, fun q hq => (hF q hq).full, hU, hI⟩
theorem byteCells_len (s : ByteArray) : (byteCells s).length = s.size := by simp [byteCells]
theorem byteCells_bytes (s : ByteArray) : AllBytes (byteCells s) := by
  intro u hu
  obtain ⟨b, _, rfl⟩ := List.mem_map.1 hu
  exact ⟨_, rfl, by omega, by have := b.toNat_lt; omega⟩
/-- a string as it is sent -/
def strV (s : ByteArray) : List Value := .int .u8 s.size :: byteCells s
theorem strV_len (s : ByteArray) : (strV s).length = s.size + 1 := by simp [strV, byteCells_len]
theorem strV_bytes (s : ByteArray) (h : s.size < 128) : AllBytes (strV s) := by
  intro u hu
  rcases List.mem_cons.1 hu with rfl | hu
  · exact ⟨_, rfl, by omega, by omega⟩
  · exact byteCells_bytes s u hu
set_option maxRecDepth 100000 in
set_option maxHeartbeats 400000 in
theorem PutLen1 (bp : Nat) (ao : Option Addr) (m cp : Nat) (bs : List Value) (x : Int) (w : World) (h : Hold w bp 46 5 1 ao m cp bs) (h0 : 0 ≤ x) (hx : x < 128) (hm : m ≤ 1000000) :
    Calls Tryz.prog 111 #[.pointer (some ⟨bp, 0, none⟩), .int .i64 x] w fun e w' => e = .returned (.tuple #[]) ∧ Grew w w' bp 46 5 1 ao (m + 1) (bs ++ [.int .u8 x]) := by
  have hw : x % 18446744073709551616 = x := by omega
  go_enter Tryz.func111, Tryz.ntmps111
  go_wp2_with (go_at_call 61; apply stopHere)
  show Calls _ _ _ _ _
  try rw [hw]
  refine (PutUVarInt1 bp ao m cp bs x _ h h0 hx hm).mono ?_
  rintro e w1 ⟨rfl, hG⟩
  dsimp only
  go_wp2
  go_end0
  exact ⟨rfl, hG⟩
set_option maxRecDepth 100000 in
set_option maxHeartbeats 400000 in
theorem PutString1 (bp : Nat) (ao : Option Addr) (m cp : Nat) (bs : List Value) (s : ByteArray) (w : World) (h : Hold w bp 46 5 1 ao m cp bs) (hs : s.size < 128) (hm : m ≤ 1000000) :
    Calls Tryz.prog 102 #[.pointer (some ⟨bp, 0, none⟩), .string s] w fun e w' => e = .returned (.tuple #[]) ∧ Grew w w' bp 46 5 1 ao (m + (strV s).length) (bs ++ strV s) := by
  have hG0 := Gr.start h
  go_enter Tryz.func102, Tryz.ntmps102
  go_wp2_with (first
    | (go_at_call 111; (refine (PutLen1 bp _ _ _ _ _ _ h (by omega) (by omega) hm).mono ?_); rintro e w1 ⟨rfl, ao1, c1, hH1, hU1, hI1⟩; have hG1 := hG0.step hH1 hU1 hI1; have q1 := hH1.cell)
    | (at_builtin; (refine wpList_app _ rfl _ _ 26 9 rfl 5 (.int .u8 0) 1 1 Tryz.underlying26 Tryz.info5 rfl (by decide) hH1.own rfl (Src.ofString _ Tryz.underlying9 s) rfl (by decide) (by omega) ?_); intro ao2 c2 w2 hown2 hupd2 hin2; have hc2 := hH1.cell1 hupd2; have hf2 := hH1.free1 hupd2))
  go_end0
  have hG2 := hG1.step (hH1.after hown2 hupd2 hin2) (hH1.upd hupd2 _) hin2
  refine ⟨rfl, ao2, c2, ?_, hG2.upd, hG2.inn⟩
  have := hG2.hold
  rw [strV_len, strV, show m + (s.size + 1) = m + 1 + s.size by omega]
  simpa using this
/-- the head of a column -/
def headB (v : Int) (b : Bc) : List Value := strV b.nm ++ strV b.K.name ++ (if 54454 ≤ v then [.int .u8 0] else [])
theorem headB_len (v : Int) (b : Bc) : (headB v b).length ≤ b.nm.size + b.K.name.size + 3 := by
  unfold headB
  split <;> simp [strV_len] <;> omega
set_option maxRecDepth 100000 in
set_option maxHeartbeats 1000000 in
theorem EncodeStart_K (q : Bc × Nat) (hK : KdOK q.1.K) (hnm : q.1.nm.size ≤ 40) (aq : Option Addr) (nq cq : Nat) (bp : Nat) (ao : Option Addr) (m cp : Nat) (bs : List Value) (v : Int) (w : World) (h : Hold w bp 46 5 1 ao m cp bs) (hq : w.cell? ⟨q.2, 0, none⟩ = some (.slice aq nq cq)) (hne : q.2 ∉ bp :: bk ao) (hm : m ≤ 100000) :
    Calls Tryz.prog 66 #[.agg (inCells q).toArray, .pointer (some ⟨bp, 0, none⟩), .int .i64 v] w fun e w' => e = .returned (.tuple #[]) ∧ Grew w w' bp 46 5 1 ao (m + (headB v q.1).length) (bs ++ headB v q.1) := by
  obtain ⟨b, p⟩ := q
  simp only [inCells] at *
  obtain ⟨k1, u1, s1⟩ := alloc_facts w (Obj.cells #[.string b.nm, .iface b.K.tI (b.K.V p)] 78)
  have hG0 := Gr.start (h.kept u1 (by simp) (by simp))
  have hq1 := u1.cell1 hq (by simp)
  have hlt := h.lt
  have hbl := h.own.lt
  have hnb : w.heap.size ∉ bp :: bk ao := fun hx => by
    rcases List.mem_cons.1 hx with e | e
    · omega
    · have := hbl _ e; omega
  have p0 : (w.alloc (Obj.cells #[.string b.nm, .iface b.K.tI (b.K.V p)] 78)).cell? ⟨w.heap.size, 0, none⟩ = some (.string b.nm) := (cellAt k1 0).trans rfl
  have p1 : (w.alloc (Obj.cells #[.string b.nm, .iface b.K.tI (b.K.V p)] 78)).cell? ⟨w.heap.size, 1, none⟩ = some (.iface b.K.tI (b.K.V p)) := (cellAt k1 1).trans rfl
  have hF := FeatIn 54454 v
  have et := hK.eType
  have hnn := hK.nm
  by_cases hv : 54454 ≤ v
  all_goals
    go_enter Tryz.func66, Tryz.ntmps66
    go_wp2_with (first
      | (go_at_call 102; (with_reducible refine (PutString1 bp _ _ _ _ b.nm _ hG0.hold (by omega) (by omega)).mono ?_); rintro e w1 ⟨rfl, ao1, c1, hH1, hU1, hI1⟩; have hG1 := hG0.step hH1 hU1 hI1; have q1 := hG1.upd.cell1 p1 hnb; have mt := hK.mType p w1 _ (hG1.upd.cell1 hq1 hne))
      | ((with_reducible show Calls _ b.K.fType _ _ _); (refine (hK.type _ _).mono ?_); rintro e w2 ⟨rfl, rfl⟩)
      | (go_at_call 102; (with_reducible refine (PutString1 bp _ _ _ _ b.K.name _ hG1.hold (by omega) (by rw [strV_len]; omega)).mono ?_); rintro e w3 ⟨rfl, ao3, c3, hH3, hU3, hI3⟩; have hG3 := hG1.step hH3 hU3 hI3)
      | (go_at_call 24; (refine (hF _).mono ?_); rintro e w4 ⟨rfl, rfl⟩)
      | (go_at_call 62; (refine (PutBool bp _ _ _ _ false _ hG3.hold (by rw [strV_len, strV_len]; omega)).mono ?_); rintro e w5 ⟨rfl, ao5, c5, hH5, hU5, hI5⟩; have hG5 := hG3.step hH5 hU5 hI5))
    go_end0
  · refine ⟨rfl, ?_⟩
    have := hG5.grew u1
    simpa [headB, if_pos hv, Nat.add_assoc, bitV] using this
  · refine ⟨rfl, ?_⟩
    have := hG3.grew u1
    simpa [headB, if_neg (show ¬ 54454 ≤ v by omega), Nat.add_assoc] using this
end Go.Proofs.YtfbohkbpgfnceaaGreatDoor
