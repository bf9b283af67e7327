/- A kind of column, what its functions do; its rows read. -/
import Derived.Test.YtfbohkbpgfnceaaGreatDoorMD
namespace Go.Proofs.YtfbohkbpgfnceaaGreatDoor
set_option linter.unusedVariables false
set_option linter.unusedSimpArgs false
open Go Go.RowKit
/-- each word of the row has 64 bits -/
def Ok4 (r : R4) : Prop := (0 ≤ r.a ∧ r.a < 18446744073709551616) ∧ (0 ≤ r.b ∧ r.b < 18446744073709551616) ∧ (0 ≤ r.c ∧ r.c < 18446744073709551616) ∧ (0 ≤ r.d ∧ r.d < 18446744073709551616)
/-- a kind of column: its number, its types, its name, how many bytes a row has; the cells and the bytes of a row, and the row that it keeps; its functions -/
structure Kd where
  kind : Int
  tI : TypeId
  tC : TypeId
  tE : TypeId
  size : Nat
  V : Nat → Value
  name : ByteArray
  width : Nat
  cells : R4 → List Value
  bytes : R4 → List Value
  kept : R4 → R4
  fAdd : FuncId
  fAt : FuncId
  fRows : FuncId
  fType : FuncId
  fEnc : FuncId
  fReset : FuncId
  fDec : FuncId
/-- the column of the kind over the variable p -/
abbrev Kd.Held (K : Kd) (w : World) (p : Nat) (ao : Option Addr) (n c : Nat) (rs : List R4) : Prop := Hold w p K.tC K.tE K.size ao n c (rs.flatMap K.cells)
/-- what the functions of the kind do -/
structure KdOK (K : Kd) : Prop where
  sz : ∀ r, (K.cells r).length = K.size
  sz0 : 0 < K.size
  wd : ∀ r, (K.bytes r).length = K.width
  wd0 : 0 < K.width
  wd1 : K.width ≤ 32
  byt : ∀ r, AllBytes (K.bytes r)
  nm : 0 < K.name.size ∧ K.name.size ≤ 30
  okk : ∀ r, Ok4 r → Ok4 (K.kept r)
  col : ∀ w : World, Calls Tryz.prog 23 #[.int .i64 K.kind] w fun e w' => e = .returned (.iface K.tI (K.V w.heap.size)) ∧ w' = w.alloc (.cells #[.slice none 0 0] K.tC)
  eAdd : ∀ (args : Array Value) (w : World), (callFunc K.fAdd args).run Tryz.prog w = .ok (.enter K.fAdd args) w
  eAt : ∀ (args : Array Value) (w : World), (callFunc K.fAt args).run Tryz.prog w = .ok (.enter K.fAt args) w
  eRows : ∀ (args : Array Value) (w : World), (callFunc K.fRows args).run Tryz.prog w = .ok (.enter K.fRows args) w
  eType : ∀ (args : Array Value) (w : World), (callFunc K.fType args).run Tryz.prog w = .ok (.enter K.fType args) w
  eEnc : ∀ (args : Array Value) (w : World), (callFunc K.fEnc args).run Tryz.prog w = .ok (.enter K.fEnc args) w
  eReset : ∀ (args : Array Value) (w : World), (callFunc K.fReset args).run Tryz.prog w = .ok (.enter K.fReset args) w
  eDec : ∀ (args : Array Value) (w : World), (callFunc K.fDec args).run Tryz.prog w = .ok (.enter K.fDec args) w
  mAdd : ∀ (p : Nat) (w : World), (method 625 K.tI (K.V p) "given.example/pub-clapboard/impl.add").run Tryz.prog w = .ok (K.fAdd, K.V p) w
  mAt : ∀ (p : Nat) (w : World), (method 625 K.tI (K.V p) "given.example/pub-clapboard/impl.at").run Tryz.prog w = .ok (K.fAt, K.V p) w
  mRows : ∀ (p : Nat) (w : World) (v : Value), w.cell? ⟨p, 0, none⟩ = some v → (method 625 K.tI (K.V p) "Rows").run Tryz.prog w = .ok (K.fRows, v) w
  mType : ∀ (p : Nat) (w : World) (v : Value), w.cell? ⟨p, 0, none⟩ = some v → (method 625 K.tI (K.V p) "Type").run Tryz.prog w = .ok (K.fType, v) w
  mEnc : ∀ (p : Nat) (w : World) (v : Value), w.cell? ⟨p, 0, none⟩ = some v → (method 625 K.tI (K.V p) "EncodeColumn").run Tryz.prog w = .ok (K.fEnc, v) w
  mReset : ∀ (p : Nat) (w : World), (method 625 K.tI (K.V p) "Reset").run Tryz.prog w = .ok (K.fReset, .pointer (some ⟨p, 0, none⟩)) w
  mDec : ∀ (p : Nat) (w : World), (method 625 K.tI (K.V p) "DecodeColumn").run Tryz.prog w = .ok (K.fDec, .pointer (some ⟨p, 0, none⟩)) w
  taPrep : ∀ (p : Nat) (w : World), (Instr.typeAssert (.iface K.tI (K.V p)) 76 205 true).run Tryz.prog w = .ok (.tuple #[.nilIface, .bool false]) w
  taState : ∀ (p : Nat) (w : World), (Instr.typeAssert (.iface K.tI (K.V p)) 76 210 true).run Tryz.prog w = .ok (.tuple #[.nilIface, .bool false]) w
  taInfer : ∀ (p : Nat) (w : World), (Instr.typeAssert (.iface K.tI (K.V p)) 89 375 true).run Tryz.prog w = .ok (.tuple #[.nilIface, .bool false]) w
  taStateD : ∀ (p : Nat) (w : World), (Instr.typeAssert (.iface K.tI (K.V p)) 89 380 true).run Tryz.prog w = .ok (.tuple #[.nilIface, .bool false]) w
  add : ∀ (p : Nat) (ar : Option Addr) (n c : Nat) (rs : List R4) (ao : Option Addr) (m cp : Nat) (xs : List Value) (w : World), View w 4 ar n (rs.flatMap R4.cells) → Hold w p K.tC K.tE K.size ao m cp xs → (0 < n → Apart ar p ao) → n ≤ 1000 → m ≤ 100000 → (∀ r ∈ rs, Ok4 r) →
    Calls Tryz.prog K.fAdd #[K.V p, .slice ar n c] w fun e w' => e = .returned (.tuple #[]) ∧ Grew w w' p K.tC K.tE K.size ao (m + n) (xs ++ rs.flatMap K.cells)
  rows : ∀ (ao : Option Addr) (n c : Nat) (w : World), Calls Tryz.prog K.fRows #[.slice ao n c] w fun e w' => e = .returned (.int .i64 n) ∧ w' = w
  type : ∀ (v : Value) (w : World), Calls Tryz.prog K.fType #[v] w fun e w' => e = .returned (.string K.name) ∧ w' = w
  enc : ∀ (ac : Option Addr) (n cc : Nat) (rs : List R4) (bp : Nat) (ao : Option Addr) (m cp : Nat) (bs : List Value) (w : World), View w K.size ac n (rs.flatMap K.cells) → (∀ r ∈ rs, Ok4 r) → Hold w bp 46 5 1 ao m cp bs → Apart ac bp ao → (∀ x, x ∈ bk ac → x < w.heap.size) → 0 < n → n ≤ 1000 → m ≤ 1000000 →
    Calls Tryz.prog K.fEnc #[.slice ac n cc, .pointer (some ⟨bp, 0, none⟩)] w fun e w' => e = .returned (.tuple #[]) ∧ Grew w w' bp 46 5 1 ao (m + n * K.width) (bs ++ rs.flatMap K.bytes)
  reset : ∀ (p : Nat) (w : World), Hold w p K.tC K.tE K.size none 0 0 [] → Calls Tryz.prog K.fReset #[.pointer (some ⟨p, 0, none⟩)] w fun e w' => e = .returned (.tuple #[]) ∧ Hold w' p K.tC K.tE K.size none 0 0 [] ∧ Upd [p] w w'
  dec : ∀ (p rd bf d : Nat) (ao : Option Addr) (n : Nat) (rs : List R4) (rest : List Value) (w : World), (∀ r ∈ rs, Ok4 r) → Rdr w rd bf d ao (rs.flatMap K.bytes ++ rest) → rs.length = n → 0 < n → n ≤ 30 → Hold w p K.tC K.tE K.size none 0 0 [] → Off p rd bf d ao →
    Calls Tryz.prog K.fDec #[.pointer (some ⟨p, 0, none⟩), .pointer (some ⟨rd, 0, none⟩), .int .i64 n] w fun e w' => e = .returned .nilIface ∧ Got w w' p K.tC K.tE K.size rd bf d ao n (rs.flatMap K.cells) rest
  at_ : ∀ (p g n c : Nat) (rs : List R4) (i : Nat) (hi : i < rs.length) (w : World), (∀ r ∈ rs, Ok4 r) → Hold w p K.tC K.tE K.size (some ⟨g, 0, none⟩) n c (rs.flatMap K.cells) → rs.length = n →
    Calls Tryz.prog K.fAt #[K.V p, .int .i64 i] w fun e w' => e = .returned (K.kept rs[i]).agg ∧ Upd [] w w'
/-- the rows that a column gives: a slice of their own -/
def RowsGot (w : World) (n : Nat) (ys : List Value) (e : Ending) (w' : World) : Prop :=
  ∃ ao c, e = .returned (.slice ao n c) ∧ Row w' 67 4 ao n c ys ∧ Upd [] w w' ∧ In [] w.heap.size ao
set_option maxRecDepth 100000 in
set_option maxHeartbeats 1000000 in
theorem all_K (K : Kd) (hK : KdOK K) (p g n c : Nat) (rs : List R4) (w : World) (hrs : ∀ r ∈ rs, Ok4 r) (h : K.Held w p (some ⟨g, 0, none⟩) n c rs) (hl : rs.length = n) (hn : n ≤ 1000) :
    Calls Tryz.prog 30 #[.iface K.tI (K.V p)] w (RowsGot w n (rs.flatMap (fun r => (K.kept r).cells))) := by
  have hat := hK.mAt p
  have ea := hK.eAt
  have er := hK.eRows
  go_enter Tryz.func30, Tryz.ntmps30
  go_wp2
  go_loopw [3, 4] (fun v i wr => ∃ (k : Nat) (ao : Option Addr) (c' : Nat), k ≤ n ∧ i = .int .i64 k ∧ v = .slice ao k c' ∧ Row wr 67 4 ao k c' ((rs.take k).flatMap (fun r => (K.kept r).cells)) ∧ Upd [] w wr ∧ In [] w.heap.size ao)
    (fun _ i _ => n - (intOf i).toNat)
  case atStart => exact ⟨0, none, 0, Nat.zero_le _, rfl, rfl, Row.nil, Upd.refl _ _, In.nil⟩
  case round =>
    obtain ⟨k, ao, c', hk, rfl, rfl, hR, hU, hI⟩ := hrel
    have h' := h.kept hU (by simp) (by simp)
    have hm := hK.mRows p wr _ h'.cell
    by_cases hlt : k < n
    · have hk0 : ((k : Int) < n) := by omega
      obtain ⟨r, hx⟩ : ∃ r, r = rs[k]'(by omega) := ⟨_, rfl⟩
      have hat2 := fun w' (h2 : K.Held w' p (some ⟨g, 0, none⟩) n c rs) => hK.at_ p g n c rs k (by omega) w' hrs h2 hl
      rw [← hx] at hat2
      have HX := Lib.hid hx
      clear hx
      go_wp2_with (first
        | (with_reducible show Calls _ K.fRows _ _ _; (refine (hK.rows _ _ _ _).mono ?_); rintro e w2 ⟨rfl, rfl⟩)
        | (with_reducible show Calls _ K.fAt _ _ _; (refine (hat2 _ h').mono ?_); rintro e w2 ⟨rfl, hu2⟩; simp only [R4.agg])
        | (at_builtin; (refine wpList_app1 _ rfl _ _ 33 rfl 67 (.agg #[.int .u64 0, .int .u64 0, .int .u64 0, .int .u64 0]) 4 32 Tryz.underlying33 Tryz.info67 rfl (by decide) (hR.upd hu2 (by simp)) rfl (K.kept r).cells rfl rfl rfl (by simp [R4.cells, Value.oneCell']) (by decide) (by omega) ?_); intro ao1 c1 w3 hown1 hupd1 hin1))
      have hU2 : Upd [] w w3 := (hU.trans hu2 (by simp)).own hupd1 hI
      have hI2 : In [] w.heap.size ao1 := hI.step hin1 (hU.trans hu2 (by simp)).size
      have hR2 : Row w3 67 4 ao1 (k + 1) c1 ((rs.take (k + 1)).flatMap (fun r => (K.kept r).cells)) := by
        rw [flatMap_take_succ _ _ _ (by omega), ← HX.out]
        exact hown1
      clear hown1 hR
      go_roundw
      case rel => exact ⟨k + 1, ao1, c1, by omega, by go_num, rfl, hR2, hU2, hI2⟩
      case measure => simp [intOf]; omega
    · have hk0 : ¬ ((k : Int) < n) := by omega
      obtain rfl : k = n := by omega
      rw [List.take_of_length_le (by omega)] at hR
      go_wp2_with (first
        | (with_reducible show Calls _ K.fRows _ _ _; (refine (hK.rows _ _ _ _).mono ?_); rintro e w2 ⟨rfl, rfl⟩))
      go_ret
      exact ⟨ao, c', rfl, hR, hU, hI⟩
end Go.Proofs.YtfbohkbpgfnceaaGreatDoor
