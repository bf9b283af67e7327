/- Bytes of numbers, as lists of cells; rows that are written to; the copies of rows. -/
import Derived.Test.YtfbohkbpgfnceaaGreatDoorBase
import Derived.Test.YtfbohkbpgfnceaaGreatDoorProg
import Derived.Deep.DeepMust
import Derived.Laws.CopyOwn
import Derived.Laws.BytesString
import Derived.Lib.BufferRead
import Derived.Laws.MakeOwn
import Derived.Lib.EndianBits
import Derived.Recover
import Derived.Defers
namespace Go.Proofs.YtfbohkbpgfnceaaGreatDoor
set_option linter.unusedVariables false
set_option linter.unusedSimpArgs false
open Go Go.RowKit

/-! ### bytes of numbers -/
def U64 (x : Int) : Prop := 0 ≤ x ∧ x < 18446744073709551616
/-- byte i of a number -/
def byteAt (x : Int) (i : Nat) : Int := (x / (2:Int) ^ (8 * i)) % 256
theorem byteAt_range (x : Int) (i : Nat) : 0 ≤ byteAt x i ∧ byteAt x i < 256 := by unfold byteAt; omega
def byteV (x : Int) : Value := .int .u8 x
def low16 (u v : Int) (i : Nat) : Int := if 8 ≤ i then byteAt v (i % 8) else byteAt u (i % 8)
def lowV (u v : Int) (n : Nat) : List Value := (List.range n).map (fun i => Value.int .u8 (low16 u v i))
theorem lowV_len (u v : Int) (n : Nat) : (lowV u v n).length = n := by simp [lowV]
theorem lowV_succ (u v : Int) (k : Nat) : lowV u v (k + 1) = lowV u v k ++ [Value.int .u8 (low16 u v k)] := by simp [lowV, List.range_succ]
theorem low16_hi {u v : Int} {k : Nat} (h : 8 ≤ (k : Int)) : low16 u v k = v / 2 ^ (8 * (k % 8)) % 256 := by simp [low16, byteAt, show 8 ≤ k by omega]
theorem low16_lo {u v : Int} {k : Nat} (h : (k : Int) < 8) : low16 u v k = u / 2 ^ (8 * (k % 8)) % 256 := by simp [low16, byteAt, show ¬ 8 ≤ k by omega]
theorem low16_range (u v : Int) (i : Nat) : 0 ≤ low16 u v i ∧ low16 u v i < 256 := by unfold low16; split <;> exact byteAt_range _ _
/-- the lowest n bytes, the lowest one first -/
def leV (n : Nat) (x : Int) : List Value := (List.range n).map (fun i => Value.int .u8 (byteAt x i))
theorem leV_len (n : Nat) (x : Int) : (leV n x).length = n := by simp [leV]
theorem lowV8 (u v : Int) : lowV u v 8 = leV 8 u := by
  unfold lowV leV
  apply List.map_congr_left
  intro i hi
  simp at hi
  simp [low16, show ¬ 8 ≤ i by omega, Nat.mod_eq_of_lt hi]
/-- every cell of a list is a byte -/
def AllBytes (xs : List Value) : Prop := ∀ u ∈ xs, ∃ x : Int, u = .int .u8 x ∧ 0 ≤ x ∧ x < 256
theorem AllBytes.nil : AllBytes [] := by intro u h; cases h
theorem AllBytes.append {xs ys : List Value} (h : AllBytes xs) (k : AllBytes ys) : AllBytes (xs ++ ys) := fun u hu => (List.mem_append.1 hu).elim (h u) (k u)
theorem lowV_bytes (u v : Int) (n : Nat) : AllBytes (lowV u v n) := by
  intro x hx
  obtain ⟨i, _, rfl⟩ := List.mem_map.1 hx
  exact ⟨_, rfl, low16_range _ _ _⟩
theorem leV_bytes (n : Nat) (x : Int) : AllBytes (leV n x) := by
  intro u hu
  obtain ⟨i, _, rfl⟩ := List.mem_map.1 hu
  exact ⟨_, rfl, byteAt_range _ _⟩
theorem AllBytes.one {xs : List Value} (h : AllBytes xs) : ∀ u ∈ xs, u.oneCell' = true := by
  intro u hu
  obtain ⟨x, rfl, _⟩ := h u hu
  rfl
theorem AllBytes.flat {α : Type} {f : α → List Value} (h : ∀ a, AllBytes (f a)) (l : List α) : AllBytes (l.flatMap f) := by
  intro u hu
  obtain ⟨a, _, ha⟩ := List.mem_flatMap.1 hu
  exact h a u ha

/-! ### writing into a list -/
/-- bs written over xs from o on -/
def putAt (xs : List Value) (o : Nat) (bs : List Value) : List Value := xs.take o ++ bs ++ xs.drop (o + bs.length)
theorem putAt_nil (xs : List Value) (o : Nat) : putAt xs o [] = xs := by simp [putAt]
theorem putAt_len {xs : List Value} {o : Nat} {bs : List Value} (h : o + bs.length ≤ xs.length) : (putAt xs o bs).length = xs.length := by
  simp only [putAt, List.length_append, List.length_take, List.length_drop]; omega
theorem putAt_snoc {xs : List Value} {o : Nat} {bs : List Value} {b : Value} (h : o + bs.length < xs.length) : (putAt xs o bs).set (o + bs.length) b = putAt xs o (bs ++ [b]) := by
  have hl : (xs.take o ++ bs).length = o + bs.length := by simp only [List.length_append, List.length_take]; omega
  unfold putAt
  rw [List.set_append_right _ _ (by omega), hl, Nat.sub_self, List.drop_eq_getElem_cons (by omega)]
  simp only [List.set_cons_zero, List.append_assoc, List.cons_append, List.nil_append, List.length_append, List.length_cons, List.length_nil, Nat.zero_add, Nat.add_assoc]
/-- behind what stands already -/
theorem putAt_behind {xs ys : List Value} {bs : List Value} {o : Nat} (ho : o = xs.length) : putAt (xs ++ ys) o bs = xs ++ bs ++ ys.drop bs.length := by
  subst ho
  unfold putAt
  rw [List.take_left, List.drop_length_add_append]

theorem sets_putAt : ∀ (bs : List Value) (xs : List Value) (o k : Nat), o + k + bs.length ≤ xs.length → (bs.zipIdx k).foldl (fun c p => c.set (o + p.2) p.1) xs = putAt xs (o + k) bs := by
  intro bs
  induction bs with
  | nil => intro xs o k _; simp [putAt_nil]
  | cons b bs ih =>
    intro xs o k h
    simp only [List.length_cons] at h
    simp only [List.zipIdx_cons, List.foldl_cons]
    rw [ih _ _ _ (by simp; omega)]
    unfold putAt
    have h1 : (xs.set (o + k) b).take (o + (k + 1)) = xs.take (o + k) ++ [b] := by
      rw [← Nat.add_assoc, List.take_succ_eq_append_getElem (by simp; omega), List.take_set_of_le (by omega), List.getElem_set_self]
    rw [h1, List.drop_set_of_lt (by omega)]
    simp only [List.append_assoc, List.cons_append, List.nil_append, List.length_cons]
    congr 4
    omega

theorem Row.stored1 {w : World} {e : TypeId} {g n c : Nat} {xs : List Value} (h : Row w e 1 (some ⟨g, 0, none⟩) n c xs) (j : Nat) (u : Value) : Row (w.setCell ⟨g, j, none⟩ u) e 1 (some ⟨g, 0, none⟩) n c (xs.set j u) := (World.ownsRow.stored h j u).1
theorem Row.cap {w : World} {e : TypeId} {size : Nat} {ao : Option Addr} {n c : Nat} {xs : List Value} (h : Row w e size ao n c xs) : n ≤ c ∧ c ≤ maxLen := by
  rcases h.2 with ⟨h1, h0⟩ | ⟨g, cap, cur, hv, _, _, h1, h2, _⟩
  · simp only [Value.slice.injEq] at h1
    unfold maxLen
    omega
  · simp only [Value.slice.injEq] at hv
    omega
theorem Row.free {w : World} {e : TypeId} {size g n c : Nat} {xs : List Value} (h : Row w e size (some ⟨g, 0, none⟩) n c xs) (j : Nat) : w.frozen? ⟨g, j, none⟩ = false := World.ownsRow.frozenAt h j
theorem Row.cell' {w : World} {e : TypeId} {size g n c : Nat} {xs : List Value} (h : Row w e size (some ⟨g, 0, none⟩) n c xs) (j : Nat) (hj : j < n * size) : ∃ u, xs[j]? = some u ∧ w.cell? ⟨g, j, none⟩ = some u := by
  have hl : j < xs.length := by rw [h.len]; exact hj
  exact ⟨xs[j], by simp, h.cell (by simp)⟩
theorem Row.view {w : World} {e : TypeId} {size g n c : Nat} {xs : List Value} (h : Row w e size (some ⟨g, 0, none⟩) n c xs) (o : Nat) (cs : List Value) (hc : ∀ j v, cs[j]? = some v → xs[o + j]? = some v) : w.rangeAt g o cs := fun j v hv => h.cell (hc j v hv)

/-! ### slices that are only read -/
/-- the slice (ao, n) reads xs -/
structure View (w : World) (size : Nat) (ao : Option Addr) (n : Nat) (xs : List Value) : Prop where
  len : xs.length = n * size
  at_ : 0 < n → ∃ b o, ao = some ⟨b, o, none⟩ ∧ w.rangeAt b o xs ∧ b < w.heap.size
theorem Row.toView {w : World} {e : TypeId} {size : Nat} {ao : Option Addr} {n c : Nat} {xs : List Value} (h : Row w e size ao n c xs) : View w size ao n xs := by
  refine ⟨h.len, fun hn => ?_⟩
  obtain ⟨g, rfl⟩ := h.head hn
  exact ⟨g, 0, rfl, h.view 0 xs (fun j v hv => by rw [Nat.zero_add]; exact hv), h.lt g (by simp)⟩
theorem View.upd {w w' : World} {size : Nat} {ao : Option Addr} {n : Nat} {xs : List Value} {F : List Nat} (h : View w size ao n xs) (hu : Upd F w w') (hF : ∀ x, x ∈ bk ao → x ∉ F) : View w' size ao n xs := by
  refine ⟨h.len, fun hn => ?_⟩
  obtain ⟨b, o, rfl, hr, hb⟩ := h.at_ hn
  exact ⟨b, o, rfl, hu.range hr hb (hF b (by simp)), Nat.lt_of_lt_of_le hb hu.size⟩
theorem View.nil {w : World} {size : Nat} {ao : Option Addr} : View w size ao 0 [] := ⟨by simp, fun h => by omega⟩
theorem View.lt {w : World} {size : Nat} {ao : Option Addr} {n : Nat} {xs : List Value} (h : View w size ao n xs) (hn : 0 < n) : ∀ x, x ∈ bk ao → x < w.heap.size := by
  obtain ⟨b, o, rfl, _, hb⟩ := h.at_ hn
  simpa using hb

/-! ### many numbers -/
theorem flatMap_take_succ {α β : Type} (f : α → List β) (l : List α) (k : Nat) (h : k < l.length) : (l.take (k + 1)).flatMap f = (l.take k).flatMap f ++ f l[k] := by
  rw [List.take_succ_eq_append_getElem h, List.flatMap_append]; simp
theorem flatMap_len {α β : Type} (f : α → List β) (m : Nat) (hf : ∀ a, (f a).length = m) (l : List α) : (l.flatMap f).length = l.length * m := by
  induction l with
  | nil => simp
  | cons a l ih => simp only [List.flatMap_cons, List.length_append, hf, ih, List.length_cons]; rw [Nat.succ_mul]; omega
theorem zeroCells1 (z : Value) (m : Nat) : (Builtin.zeroCells #[z] m).toList = List.replicate m z := by
  apply List.ext_getElem?
  intro j
  by_cases hj : j < m
  · simp [Builtin.zeroCells, hj, Nat.mod_one]
  · simp [Builtin.zeroCells, hj]
/-- a round of an encoding loop: the next number's bytes over zeros -/
theorem enc_step {bs es zs : List Value} {z : Value} {m r : Nat} {e1 : List Value} (hz : zs = List.replicate (m + r) z) (he : e1.length = m) {o : Nat} (ho : o = (bs ++ es).length) : putAt (bs ++ es ++ zs) o e1 = bs ++ (es ++ e1) ++ List.replicate r z := by
  subst hz
  rw [putAt_behind ho, he, List.drop_replicate]
  simp only [List.append_assoc]
  congr 4
  omega
end Go.Proofs.YtfbohkbpgfnceaaGreatDoor
/- spec.PRLow; encoding/binary's PutUint of a width. -/
namespace Go.Proofs.YtfbohkbpgfnceaaGreatDoor
set_option linter.unusedVariables false
set_option linter.unusedSimpArgs false
open Go Go.RowKit
theorem Tryz.info5 : (Tryz.prog.info? 5).map (fun i => (i.zero, i.size, i.bytes)) = some (some (.int .u8 0), 1, 1) := by kernel_rfl
set_option maxRecDepth 100000 in
set_option maxHeartbeats 1000000 in
theorem PutUint64 (g off n cp N C : Nat) (xs : List Value) (v : Int) (w : World) (h : Row w 5 1 (some ⟨g, 0, none⟩) N C xs) (ho : off + 8 ≤ N) (hn : 8 ≤ n) :
    Calls Tryz.prog 242 #[.agg #[], .slice (some ⟨g, off, none⟩) n cp, .int .u64 v] w fun e w' => e = .returned (.tuple #[]) ∧ Row w' 5 1 (some ⟨g, 0, none⟩) N C (putAt xs off (leV 8 v)) ∧ Upd [g] w w' := by
  have hl := h.len
  have hnn : ((8 : Nat) : Int) ≤ n := by omega
  have c0 : ∀ j, j < 8 → ∃ u, w.cell? ⟨g, off + j, none⟩ = some u := fun j hj => by obtain ⟨u, _, hu⟩ := h.cell' (off + j) (by omega); exact ⟨u, hu⟩
  obtain ⟨u0, k0⟩ := c0 0 (by omega)
  rw [Nat.add_zero] at k0
  obtain ⟨u1, k1⟩ := c0 1 (by omega)
  have f1 := h.free (off + 1)
  obtain ⟨u2, k2⟩ := c0 2 (by omega)
  have f2 := h.free (off + 2)
  obtain ⟨u3, k3⟩ := c0 3 (by omega)
  have f3 := h.free (off + 3)
  obtain ⟨u4, k4⟩ := c0 4 (by omega)
  have f4 := h.free (off + 4)
  obtain ⟨u5, k5⟩ := c0 5 (by omega)
  have f5 := h.free (off + 5)
  obtain ⟨u6, k6⟩ := c0 6 (by omega)
  have f6 := h.free (off + 6)
  obtain ⟨u7, k7⟩ := c0 7 (by omega)
  have f7 := h.free (off + 7)
  have f0 := h.free off
  have hgs : g < w.heap.size := h.lt g (by simp)
  clear c0
  go_enter Tryz.func242, Tryz.ntmps242
  go_wp2
  go_end0
  have hs := sets_putAt [.int .u8 (v % 256), .int .u8 (v / 256 % 256), .int .u8 (v / 65536 % 256), .int .u8 (v / 16777216 % 256), .int .u8 (v / 4294967296 % 256), .int .u8 (v / 1099511627776 % 256), .int .u8 (v / 281474976710656 % 256), .int .u8 (v / 72057594037927936 % 256)] xs off 0 (by simp; omega)
  simp only [List.zipIdx_cons, List.zipIdx_nil, List.foldl_cons, List.foldl_nil, Nat.add_zero, Nat.zero_add, Nat.reduceAdd] at hs
  have hb : leV 8 v = [.int .u8 (v % 256), .int .u8 (v / 256 % 256), .int .u8 (v / 65536 % 256), .int .u8 (v / 16777216 % 256), .int .u8 (v / 4294967296 % 256), .int .u8 (v / 1099511627776 % 256), .int .u8 (v / 281474976710656 % 256), .int .u8 (v / 72057594037927936 % 256)] := by simp [leV, byteAt, List.range_succ]
  refine ⟨rfl, ?_, ?_⟩
  · rw [hb, ← hs]
    exact ((((((((h.stored1 off _).stored1 (off + 1) _).stored1 (off + 2) _).stored1 (off + 3) _).stored1 (off + 4) _).stored1 (off + 5) _).stored1 (off + 6) _).stored1 (off + 7) _).alloc _
  · repeat (with_reducible first | exact Upd.refl _ _ | refine Upd.alloc ?_ _ | refine Upd.setCell ?_ _ (by simp) | refine Upd.drew ?_)
set_option maxRecDepth 100000 in
set_option maxHeartbeats 1000000 in
theorem PutUint16 (g off n cp N C : Nat) (xs : List Value) (v : Int) (w : World) (h : Row w 5 1 (some ⟨g, 0, none⟩) N C xs) (ho : off + 2 ≤ N) (hn : 2 ≤ n) :
    Calls Tryz.prog 218 #[.agg #[], .slice (some ⟨g, off, none⟩) n cp, .int .u16 v] w fun e w' => e = .returned (.tuple #[]) ∧ Row w' 5 1 (some ⟨g, 0, none⟩) N C (putAt xs off (leV 2 v)) ∧ Upd [g] w w' := by
  have hl := h.len
  have hnn : ((2 : Nat) : Int) ≤ n := by omega
  have c0 : ∀ j, j < 2 → ∃ u, w.cell? ⟨g, off + j, none⟩ = some u := fun j hj => by obtain ⟨u, _, hu⟩ := h.cell' (off + j) (by omega); exact ⟨u, hu⟩
  obtain ⟨u0, k0⟩ := c0 0 (by omega)
  rw [Nat.add_zero] at k0
  obtain ⟨u1, k1⟩ := c0 1 (by omega)
  have f1 := h.free (off + 1)
  have f0 := h.free off
  have hgs : g < w.heap.size := h.lt g (by simp)
  clear c0
  go_enter Tryz.func218, Tryz.ntmps218
  go_wp2
  go_end0
  have hs := sets_putAt [.int .u8 (v % 256), .int .u8 (v / 256 % 256)] xs off 0 (by simp; omega)
  simp only [List.zipIdx_cons, List.zipIdx_nil, List.foldl_cons, List.foldl_nil, Nat.add_zero, Nat.zero_add, Nat.reduceAdd] at hs
  have hb : leV 2 v = [.int .u8 (v % 256), .int .u8 (v / 256 % 256)] := by simp [leV, byteAt, List.range_succ]
  refine ⟨rfl, ?_, ?_⟩
  · rw [hb, ← hs]
    exact ((h.stored1 off _).stored1 (off + 1) _).alloc _
  · repeat (with_reducible first | exact Upd.refl _ _ | refine Upd.alloc ?_ _ | refine Upd.setCell ?_ _ (by simp) | refine Upd.drew ?_)
end Go.Proofs.YtfbohkbpgfnceaaGreatDoor
/- Columns of numbers whose rows are one cell: Append, EncodeColumn. -/
namespace Go.Proofs.YtfbohkbpgfnceaaGreatDoor
set_option linter.unusedVariables false
set_option linter.unusedSimpArgs false
open Go Go.RowKit
theorem stopHere {p : Prop} (h : RowKit.Hid p) : p := h
/-- how a variable has grown: behind w it holds n elements, ys -/
def Grew (w w' : World) (p : Nat) (T e : TypeId) (size : Nat) (ao : Option Addr) (n : Nat) (ys : List Value) : Prop :=
  ∃ ao' c', Hold w' p T e size ao' n c' ys ∧ Upd (p :: bk ao) w w' ∧ In (bk ao) w.heap.size ao'
theorem Hold.bk_lt {w : World} {p : Nat} {T e : TypeId} {size : Nat} {ao : Option Addr} {n c : Nat} {xs : List Value} (h : Hold w p T e size ao n c xs) : ∀ x, x ∈ bk ao → x < w.heap.size := h.own.lt
/-- a slice and a variable share no block -/
def Apart (ac : Option Addr) (p : Nat) (ao : Option Addr) : Prop := ∀ x, x ∈ bk ac → x ≠ p ∧ x ∉ bk ao
theorem Apart.not {ac : Option Addr} {p : Nat} {ao : Option Addr} (h : Apart ac p ao) : ∀ x, x ∈ bk ac → x ∉ p :: bk ao := fun x hx => by
  obtain ⟨h1, h2⟩ := h x hx; simp [h1, h2]
theorem Apart.grow {ac : Option Addr} {p : Nat} {ao ao' : Option Addr} {B : Nat} (h : Apart ac p ao) (hi : In (bk ao) B ao') (hl : ∀ x, x ∈ bk ac → x < B) : Apart ac p ao' := fun x hx =>
  ⟨(h x hx).1, fun hx' => (hi x hx').elim (h x hx).2 (fun h2 => by have := hl x hx; omega)⟩

theorem Tryz.info65 : (Tryz.prog.info? 65).map (fun i => (i.zero, i.size, i.bytes)) = some (some (.int .u64 0), 1, 8) := by kernel_rfl
set_option maxRecDepth 100000 in
set_option maxHeartbeats 400000 in
theorem ColUInt64_Append (p : Nat) (ao : Option Addr) (n c : Nat) (xs : List Value) (x : Int) (w : World) (h : Hold w p 191 65 1 ao n c xs) (hn : n ≤ 1000000) :
    Calls Tryz.prog 307 #[.pointer (some ⟨p, 0, none⟩), .int .u64 x] w fun e w' => e = .returned (.tuple #[]) ∧ Grew w w' p 191 65 1 ao (n + 1) (xs ++ [.int .u64 x]) := by
  have hc := h.cell
  go_enter Tryz.func307, Tryz.ntmps307
  go_wp2_with (at_builtin; refine wpList_app1 _ rfl _ _ 191 rfl 65 (.int .u64 0) 1 8 Tryz.underlying191 Tryz.info65 rfl (by decide) h.own rfl [.int .u64 x] rfl rfl rfl (by simp [Value.oneCell']) (by decide) (by omega) ?_; intro ao1 c1 w1 hown1 hupd1 hin1; have hc1 := h.cell1 hupd1; have hf1 := h.free1 hupd1)
  go_end0
  exact ⟨rfl, _, _, h.after hown1 hupd1 hin1, h.upd hupd1 _, hin1⟩

set_option maxRecDepth 100000 in
set_option maxHeartbeats 1000000 in
theorem ColUInt64_EncodeColumn (ac : Option Addr) (n cc : Nat) (vs : List Int) (bp : Nat) (ao : Option Addr) (m cp : Nat) (bs : List Value) (w : World) (hc : View w 1 ac n (vs.map (Value.int .u64))) (hb : Hold w bp 46 5 1 ao m cp bs)
    (hap : Apart ac bp ao) (hac : ∀ x, x ∈ bk ac → x < w.heap.size) (hn : n ≤ 1000000) (hm : m ≤ 100000000) :
    Calls Tryz.prog 309 #[.slice ac n cc, .pointer (some ⟨bp, 0, none⟩)] w fun e w' => e = .returned (.tuple #[]) ∧ Grew w w' bp 46 5 1 ao (m + n * 8) (bs ++ vs.flatMap (leV 8)) := by
  have hvl : vs.length = n := by have := hc.len; simpa using this
  have hbl := hb.own.len
  by_cases h0 : n = 0
  · subst h0
    have hv0 : vs = [] := List.eq_nil_of_length_eq_zero hvl
    subst hv0
    go_enter Tryz.func309, Tryz.ntmps309
    go_wp2
    refine bodyPost_ret (results_none rfl _ _ _) rfl ?_
    exact ⟨rfl, ao, cp, by simpa using hb, Upd.refl _ _, In.self (fun _ h => h)⟩
  · have h1 : ((n : Int) == 0) = false := beq_eq_false_iff_ne.2 (by omega)
    have hc0 := hb.cell
    go_enter Tryz.func309, Tryz.ntmps309
    go_wp2_with (at_builtin; refine wpList_zeros _ rfl _ _ 26 3 rfl 5 (.int .u8 0) 1 1 .i64 Tryz.underlying26 Tryz.underlying3 Tryz.info5 rfl (by decide) (by simp [Value.cells, Value.oneCell']) hb.own rfl (8 * n) (by omega) rfl (by omega) (by decide) (by omega) ?_; intro ao1 c1 w1 hown1 hupd1 hin1; have hc1 := hb.cell1 hupd1; have hf1 := hb.free1 hupd1)
    have hH1 := hb.after hown1 hupd1 hin1
    have hU1 := hb.upd hupd1 (.slice ao1 (m + 8 * n) c1)
    clear hown1 hupd1 hc1 hf1
    generalize w1.setCell ⟨bp, 0, none⟩ (.slice ao1 (m + 8 * n) c1) = w2 at *
    obtain ⟨g, rfl⟩ := hH1.own.head (by omega)
    go_loopw [5, 30] (fun off i wr => ∃ k : Nat, k ≤ n ∧ i = .int .i64 k ∧ off = .int .i64 (m + 8 * k : Nat) ∧ Hold wr bp 46 5 1 (some ⟨g, 0, none⟩) (m + 8 * n) c1 (bs ++ (vs.take k).flatMap (leV 8) ++ List.replicate (8 * (n - k)) (.int .u8 0)) ∧ Upd (bp :: bk ao) w wr)
      (fun _ i _ => n - (intOf i).toNat)
    case atStart => exact ⟨0, Nat.zero_le _, rfl, rfl, by rw [show (Value.int .u8 0).cells = #[Value.int .u8 0] from rfl, zeroCells1] at hH1; simpa using hH1, hU1⟩
    case round =>
      obtain ⟨k, hk, rfl, rfl, hH, hU⟩ := hrel
      by_cases hlt : k < n
      · have hk0 : ((k : Int) < n) := by omega
        obtain ⟨b, o, rfl, hr, hbb⟩ := hc.at_ (by omega)
        have hbn : b ∉ bp :: bk ao := hap.not b (by simp)
        have hcell : wr.cell? ⟨b, o + k, none⟩ = some (.int .u64 (vs[k]'(by omega))) := (hU.cell hbb hbn).trans (hr k _ (by simp [hvl, hlt]))
        have hcb := hH.cell
        have hcap : m + 8 * k + 8 ≤ c1 := by have := hH.own.cap; omega
        obtain ⟨x, hx⟩ : ∃ x, x = vs[k]'(by omega) := ⟨_, rfl⟩
        rw [← hx] at hcell
        have HX := Lib.hid hx
        clear hx
        go_wp2
        have hwr : IntKind.i64.wrap ((m : Int) + 8 * k + 8) = m + 8 * k + 8 := IntWalk.i64_in _ (by omega)
        refine wp_region_split (S := Upd [] wr) [(true, 0), (true, 1), (true, 2), (true, 3), (true, 4), (true, 5), (true, 6), (true, 7), (true, 8), (true, 9)] [] [10] (by kernel_rfl) (by kernel_rfl) (fun _ _ d _ _ h => by cases d <;> exact h) ((Upd.refl _ _).drew) ?_
        simp only [readsAt, opersAt, Option.map_some, List.filterMap_cons, List.filterMap_nil, List.getElem?_toArray, List.getElem?_cons_succ, List.getElem?_cons_zero]
        iterate 8 (refine ⟨_, Or.inl ⟨by rfl, fun w' hS => by first | (have q1 := Upd.cell1 hS hcb (by simp); first | (go_simp; done) | (go_simp; with_reducible rfl)) | (go_simp; done) | (go_simp; with_reducible rfl)⟩, ?_⟩; simp only [Act.put, List.setIfInBounds_toArray, List.set_cons_zero, List.set_cons_succ])
        refine ⟨_, yields_slice rfl 26 5 1 _ _ _ rfl Tryz.underlying26 (by kernel_rfl) g 0 _ _ rfl _ _ (m + 8 * k) (m + 8 * k + 8) rfl rfl (by omega) (by omega) (by omega) hcap (by omega) (m + 8 * k) 8 (c1 - (m + 8 * k)) (by omega) (by omega) rfl, ?_⟩
        simp only [Act.put, List.setIfInBounds_toArray, List.set_cons_zero, List.set_cons_succ]
        refine ⟨_, Or.inl ⟨by rfl, fun w' hS => by first | (go_simp; done) | (go_simp; with_reducible rfl)⟩, ?_⟩
        simp only [Act.put, List.setIfInBounds_toArray, List.set_cons_zero, List.set_cons_succ]
        try simp only [readsThen, preThen]
        change wpList _ _ _ [_] _ _
        clear hwr
        go_wp2_with (go_at_call 242; (with_reducible refine (PutUint64 g (m + 8 * k) 8 _ (m + 8 * n) c1 _ x _ (World.ownsRow.drew hH.own) ?_ (by omega)).mono ?_); (· have := Nat.mul_le_mul_left 8 (show k + 1 ≤ n by omega); omega); rintro e wx ⟨rfl, hrow, hux⟩)
        have hstep : putAt (bs ++ (vs.take k).flatMap (leV 8) ++ List.replicate (8 * (n - k)) (.int .u8 0)) (m + 8 * k) (leV 8 x) = bs ++ (vs.take (k + 1)).flatMap (leV 8) ++ List.replicate (8 * (n - (k + 1))) (.int .u8 0) := by
          rw [flatMap_take_succ _ _ _ (by omega), ← HX.out]
          refine enc_step (r := 8 * (n - (k + 1))) (m := 8) ?_ (leV_len _ _) ?_
          · congr 1; have : n - k = (n - (k + 1)) + 1 := by omega
            rw [this]; omega
          · rw [List.length_append, flatMap_len _ 8 (leV_len 8), List.length_take]; omega
        rw [hstep] at hrow
        have hux' : Upd [g] wr wx := hux.ofDrew
        have hH' : Hold wx bp 46 5 1 (some ⟨g, 0, none⟩) (m + 8 * n) c1 (bs ++ (vs.take (k + 1)).flatMap (leV 8) ++ List.replicate (8 * (n - (k + 1))) (.int .u8 0)) := ⟨hux'.at hH.blk (fun h => hH.ne (by simpa using h)), hrow, hH.ne⟩
        have hU' : Upd (bp :: bk ao) w wx := hU.trans hux' (fun y hy => by
          simp at hy; subst hy
          rcases hin1 y (by simp) with h | h
          · exact .inl (List.mem_cons_of_mem _ h)
          · exact .inr h)
        clear hstep hrow hux hux' hH hU
        go_roundw
        case rel => exact ⟨k + 1, by omega, by go_num, by simp; omega, hH', hU'⟩
        case measure => simp [intOf]; omega
      · have hk0 : n ≤ k := by omega
        obtain rfl : k = n := by omega
        go_wp2
        go_end0
        refine ⟨rfl, some ⟨g, 0, none⟩, c1, ?_, hU, hin1⟩
        rw [List.take_of_length_le (by omega), Nat.sub_self, Nat.mul_zero, List.replicate_zero, List.append_nil] at hH
        rw [Nat.mul_comm k 8]
        exact hH
theorem Tryz.info22 : (Tryz.prog.info? 22).map (fun i => (i.zero, i.size, i.bytes)) = some (some (.int .u16 0), 1, 2) := by kernel_rfl
set_option maxRecDepth 100000 in
set_option maxHeartbeats 400000 in
theorem ColUInt16_Append (p : Nat) (ao : Option Addr) (n c : Nat) (xs : List Value) (x : Int) (w : World) (h : Hold w p 173 22 1 ao n c xs) (hn : n ≤ 1000000) :
    Calls Tryz.prog 285 #[.pointer (some ⟨p, 0, none⟩), .int .u16 x] w fun e w' => e = .returned (.tuple #[]) ∧ Grew w w' p 173 22 1 ao (n + 1) (xs ++ [.int .u16 x]) := by
  have hc := h.cell
  go_enter Tryz.func285, Tryz.ntmps285
  go_wp2_with (at_builtin; refine wpList_app1 _ rfl _ _ 173 rfl 22 (.int .u16 0) 1 2 Tryz.underlying173 Tryz.info22 rfl (by decide) h.own rfl [.int .u16 x] rfl rfl rfl (by simp [Value.oneCell']) (by decide) (by omega) ?_; intro ao1 c1 w1 hown1 hupd1 hin1; have hc1 := h.cell1 hupd1; have hf1 := h.free1 hupd1)
  go_end0
  exact ⟨rfl, _, _, h.after hown1 hupd1 hin1, h.upd hupd1 _, hin1⟩

set_option maxRecDepth 100000 in
set_option maxHeartbeats 1000000 in
theorem ColUInt16_EncodeColumn (ac : Option Addr) (n cc : Nat) (vs : List Int) (bp : Nat) (ao : Option Addr) (m cp : Nat) (bs : List Value) (w : World) (hc : View w 1 ac n (vs.map (Value.int .u16))) (hb : Hold w bp 46 5 1 ao m cp bs)
    (hap : Apart ac bp ao) (hac : ∀ x, x ∈ bk ac → x < w.heap.size) (hn : n ≤ 1000000) (hm : m ≤ 100000000) :
    Calls Tryz.prog 287 #[.slice ac n cc, .pointer (some ⟨bp, 0, none⟩)] w fun e w' => e = .returned (.tuple #[]) ∧ Grew w w' bp 46 5 1 ao (m + n * 2) (bs ++ vs.flatMap (leV 2)) := by
  have hvl : vs.length = n := by have := hc.len; simpa using this
  have hbl := hb.own.len
  by_cases h0 : n = 0
  · subst h0
    have hv0 : vs = [] := List.eq_nil_of_length_eq_zero hvl
    subst hv0
    go_enter Tryz.func287, Tryz.ntmps287
    go_wp2
    refine bodyPost_ret (results_none rfl _ _ _) rfl ?_
    exact ⟨rfl, ao, cp, by simpa using hb, Upd.refl _ _, In.self (fun _ h => h)⟩
  · have h1 : ((n : Int) == 0) = false := beq_eq_false_iff_ne.2 (by omega)
    have hc0 := hb.cell
    go_enter Tryz.func287, Tryz.ntmps287
    go_wp2_with (at_builtin; refine wpList_zeros _ rfl _ _ 26 3 rfl 5 (.int .u8 0) 1 1 .i64 Tryz.underlying26 Tryz.underlying3 Tryz.info5 rfl (by decide) (by simp [Value.cells, Value.oneCell']) hb.own rfl (2 * n) (by omega) rfl (by omega) (by decide) (by omega) ?_; intro ao1 c1 w1 hown1 hupd1 hin1; have hc1 := hb.cell1 hupd1; have hf1 := hb.free1 hupd1)
    have hH1 := hb.after hown1 hupd1 hin1
    have hU1 := hb.upd hupd1 (.slice ao1 (m + 2 * n) c1)
    clear hown1 hupd1 hc1 hf1
    generalize w1.setCell ⟨bp, 0, none⟩ (.slice ao1 (m + 2 * n) c1) = w2 at *
    obtain ⟨g, rfl⟩ := hH1.own.head (by omega)
    go_loopw [5, 30] (fun off i wr => ∃ k : Nat, k ≤ n ∧ i = .int .i64 k ∧ off = .int .i64 (m + 2 * k : Nat) ∧ Hold wr bp 46 5 1 (some ⟨g, 0, none⟩) (m + 2 * n) c1 (bs ++ (vs.take k).flatMap (leV 2) ++ List.replicate (2 * (n - k)) (.int .u8 0)) ∧ Upd (bp :: bk ao) w wr)
      (fun _ i _ => n - (intOf i).toNat)
    case atStart => exact ⟨0, Nat.zero_le _, rfl, rfl, by rw [show (Value.int .u8 0).cells = #[Value.int .u8 0] from rfl, zeroCells1] at hH1; simpa using hH1, hU1⟩
    case round =>
      obtain ⟨k, hk, rfl, rfl, hH, hU⟩ := hrel
      by_cases hlt : k < n
      · have hk0 : ((k : Int) < n) := by omega
        obtain ⟨b, o, rfl, hr, hbb⟩ := hc.at_ (by omega)
        have hbn : b ∉ bp :: bk ao := hap.not b (by simp)
        have hcell : wr.cell? ⟨b, o + k, none⟩ = some (.int .u16 (vs[k]'(by omega))) := (hU.cell hbb hbn).trans (hr k _ (by simp [hvl, hlt]))
        have hcb := hH.cell
        have hcap : m + 2 * k + 2 ≤ c1 := by have := hH.own.cap; omega
        obtain ⟨x, hx⟩ : ∃ x, x = vs[k]'(by omega) := ⟨_, rfl⟩
        rw [← hx] at hcell
        have HX := Lib.hid hx
        clear hx
        go_wp2
        have hwr : IntKind.i64.wrap ((m : Int) + 2 * k + 2) = m + 2 * k + 2 := IntWalk.i64_in _ (by omega)
        refine wp_region_split (S := Upd [] wr) [(true, 0), (true, 1), (true, 2), (true, 3), (true, 4), (true, 5), (true, 6), (true, 7), (true, 8), (true, 9)] [] [10] (by kernel_rfl) (by kernel_rfl) (fun _ _ d _ _ h => by cases d <;> exact h) ((Upd.refl _ _).drew) ?_
        simp only [readsAt, opersAt, Option.map_some, List.filterMap_cons, List.filterMap_nil, List.getElem?_toArray, List.getElem?_cons_succ, List.getElem?_cons_zero]
        iterate 8 (refine ⟨_, Or.inl ⟨by rfl, fun w' hS => by first | (have q1 := Upd.cell1 hS hcb (by simp); first | (go_simp; done) | (go_simp; with_reducible rfl)) | (go_simp; done) | (go_simp; with_reducible rfl)⟩, ?_⟩; simp only [Act.put, List.setIfInBounds_toArray, List.set_cons_zero, List.set_cons_succ])
        refine ⟨_, yields_slice rfl 26 5 1 _ _ _ rfl Tryz.underlying26 (by kernel_rfl) g 0 _ _ rfl _ _ (m + 2 * k) (m + 2 * k + 2) rfl rfl (by omega) (by omega) (by omega) hcap (by omega) (m + 2 * k) 2 (c1 - (m + 2 * k)) (by omega) (by omega) rfl, ?_⟩
        simp only [Act.put, List.setIfInBounds_toArray, List.set_cons_zero, List.set_cons_succ]
        refine ⟨_, Or.inl ⟨by rfl, fun w' hS => by first | (go_simp; done) | (go_simp; with_reducible rfl)⟩, ?_⟩
        simp only [Act.put, List.setIfInBounds_toArray, List.set_cons_zero, List.set_cons_succ]
        try simp only [readsThen, preThen]
        change wpList _ _ _ [_] _ _
        clear hwr
        go_wp2_with (go_at_call 218; (with_reducible refine (PutUint16 g (m + 2 * k) 2 _ (m + 2 * n) c1 _ x _ (World.ownsRow.drew hH.own) ?_ (by omega)).mono ?_); (· have := Nat.mul_le_mul_left 2 (show k + 1 ≤ n by omega); omega); rintro e wx ⟨rfl, hrow, hux⟩)
        have hstep : putAt (bs ++ (vs.take k).flatMap (leV 2) ++ List.replicate (2 * (n - k)) (.int .u8 0)) (m + 2 * k) (leV 2 x) = bs ++ (vs.take (k + 1)).flatMap (leV 2) ++ List.replicate (2 * (n - (k + 1))) (.int .u8 0) := by
          rw [flatMap_take_succ _ _ _ (by omega), ← HX.out]
          refine enc_step (r := 2 * (n - (k + 1))) (m := 2) ?_ (leV_len _ _) ?_
          · congr 1; have : n - k = (n - (k + 1)) + 1 := by omega
            rw [this]; omega
          · rw [List.length_append, flatMap_len _ 2 (leV_len 2), List.length_take]; omega
        rw [hstep] at hrow
        have hux' : Upd [g] wr wx := hux.ofDrew
        have hH' : Hold wx bp 46 5 1 (some ⟨g, 0, none⟩) (m + 2 * n) c1 (bs ++ (vs.take (k + 1)).flatMap (leV 2) ++ List.replicate (2 * (n - (k + 1))) (.int .u8 0)) := ⟨hux'.at hH.blk (fun h => hH.ne (by simpa using h)), hrow, hH.ne⟩
        have hU' : Upd (bp :: bk ao) w wx := hU.trans hux' (fun y hy => by
          simp at hy; subst hy
          rcases hin1 y (by simp) with h | h
          · exact .inl (List.mem_cons_of_mem _ h)
          · exact .inr h)
        clear hstep hrow hux hux' hH hU
        go_roundw
        case rel => exact ⟨k + 1, by omega, by go_num, by simp; omega, hH', hU'⟩
        case measure => simp [intOf]; omega
      · have hk0 : n ≤ k := by omega
        obtain rfl : k = n := by omega
        go_wp2
        go_end0
        refine ⟨rfl, some ⟨g, 0, none⟩, c1, ?_, hU, hin1⟩
        rw [List.take_of_length_le (by omega), Nat.sub_self, Nat.mul_zero, List.replicate_zero, List.append_nil] at hH
        rw [Nat.mul_comm k 2]
        exact hH
end Go.Proofs.YtfbohkbpgfnceaaGreatDoor
/- Many cells at once: a copy into a row, an array that is stored whole into a variable. -/
namespace Go.Proofs.YtfbohkbpgfnceaaGreatDoor
set_option linter.unusedVariables false
set_option linter.unusedSimpArgs false
open Go Go.RowKit
theorem Row.block {w : World} {e : TypeId} {size g n c : Nat} {xs : List Value} (h : Row w e size (some ⟨g, 0, none⟩) n c xs) : ∃ cur, w.heap[g]? = some (.cells cur e (0, 0)) ∧ n ≤ c ∧ c ≤ maxLen ∧ cur.size = c * size ∧ cur.toList.take (n * size) = xs := by
  rcases h.2 with ⟨h1, h0⟩ | ⟨g', cap, cur, hv, _, hg, h1, h2, h3, h4⟩
  · simp at h1
  · simp only [Value.slice.injEq, Option.some.injEq, Addr.mk.injEq, and_true, true_and] at hv
    obtain ⟨rfl, rfl⟩ := hv
    exact ⟨cur, hg, h1, h2, h3, h4⟩
theorem Row.of {w : World} {e : TypeId} {size g n c : Nat} {xs : List Value} (cur : Array Value) (hg : w.heap[g]? = some (.cells cur e (0, 0))) (h1 : n ≤ c) (h2 : c ≤ maxLen) (h3 : cur.size = c * size) (h4 : cur.toList.take (n * size) = xs) : Row w e size (some ⟨g, 0, none⟩) n c xs :=
  ⟨by rw [← h4, List.length_take, Array.length_toList, h3]; exact Nat.min_eq_left (Nat.mul_le_mul_right _ h1), .inr ⟨g, c, cur, rfl, Nat.zero_le _, hg, h1, h2, h3, h4⟩⟩
theorem putAt_take {xs : List Value} {o : Nat} {bs : List Value} {n : Nat} (h : o + bs.length ≤ n) (hx : n ≤ xs.length) : (putAt xs o bs).take n = putAt (xs.take n) o bs := by
  unfold putAt
  rw [List.take_append, List.take_of_length_le (by simp only [List.length_append, List.length_take]; omega)]
  rw [List.take_take, Nat.min_eq_left (by omega), List.drop_take]
  congr 2
  simp only [List.length_append, List.length_take]
  omega
theorem Upd.setRow (w : World) (g : Nat) (cs : Array Value) : Upd [g] w (w.setRow g cs) :=
  ⟨rfl, rfl, rfl, by simp [World.setRow], fun k _ hk => setRow_other w g k cs (by simpa using hk)⟩
/-- news stored over a row from off on -/
theorem Row.put {w : World} {e : TypeId} {size g n c : Nat} {xs : List Value} (h : Row w e size (some ⟨g, 0, none⟩) n c xs) (off : Nat) (news : List Value) (hoff : off + news.length ≤ n * size) (h1 : ∀ u ∈ news, u.oneCell' = true) (P : Program) :
    ∃ w', (storeCells ⟨g, off, none⟩ news).run P w = .ok () w' ∧ Row w' e size (some ⟨g, 0, none⟩) n c (putAt xs off news) ∧ Upd [g] w w' := by
  obtain ⟨cur, hg, k1, k2, k3, k4⟩ := h.block
  have hle : n * size ≤ cur.toList.length := by rw [Array.length_toList, k3]; exact Nat.mul_le_mul_right _ k1
  have hst := run_storeCells_at P g off e news 0 cur w hg (by rw [← Array.length_toList]; omega) h1
  refine ⟨_, hst, Row.of _ (setRow_heap w g cur _ e _ hg) k1 k2 ?_ ?_, Upd.setRow w g _⟩
  · simp only [Nat.add_zero, List.size_toArray]
    have := putAt_len (xs := cur.toList) (o := off) (bs := news) (by omega)
    unfold putAt at this
    rw [this, Array.length_toList, k3]
  · simp only [Nat.add_zero]
    show (putAt cur.toList off news).take (n * size) = _
    rw [putAt_take hoff hle, k4]

section
variable {P : Program} {w : World} {ops : Array Oper} {rest : List Oper} {o : Oper} {a : Act} {Q : Exit → Act → World → Prop}
/-- copy(dst, src), src no longer than dst, dst within a row of the call's own -/
theorem wpList_copyRow (hgd : o.guard = none) (d s : Operand) (dT sT : TypeId) (ho : o.op = .call { callee := .builtin .copy, args := #[d, s], argTypes := #[dT, sT] })
    (e : TypeId) (hu : P.underlying dT = some (.slice e)) (hsz : (P.info? e).map (·.size) = some 1) {g off dLen dCap : Nat} (hd : a.eval d = .slice (some ⟨g, off, none⟩) dLen dCap)
    {vx : Value} {m : Nat} {news : List Value} (hsrc : Src P 1 sT vx m news w) (hs : a.eval s = vx) {e' : TypeId} {n c : Nat} {xs : List Value} (hrow : Row w e' 1 (some ⟨g, 0, none⟩) n c xs)
    (hm : m ≤ dLen) (hoff : off + m ≤ n)
    (h : ∀ w', Row w' e' 1 (some ⟨g, 0, none⟩) n c (putAt xs off news) → Upd [g] w w' → wpList P ops Q rest (a.put o.dst (goInt m)) w') : wpList P ops Q (o :: rest) a w := by
  refine wpList_plain hgd fun K hK => ?_
  have hl : news.length = m := by rw [hsrc.newsLen, Nat.mul_one]
  obtain ⟨w', hst, hr, hup⟩ := hrow.put off news (by omega) hsrc.one P
  obtain ⟨i, hi1, hi2⟩ := Option.map_eq_some_iff.1 hsz
  have hc := hsrc.cells
  have hmin : Nat.min m dLen = m := Nat.min_eq_left hm
  unfold Oper.wp execOp
  simp only [ho, resolve, invoke, builtin, Sem.run_bind, Sem.run_pure, Result.andThen_ok, List.map_toArray, List.map_cons, List.map_nil, hd, hs]
  have hrun : (Builtin.copy_ #[dT, sT] o.type #[.slice (some ⟨g, off, none⟩) dLen dCap, vx]).run P w = .ok (goInt m) w' := by
    simp [Builtin.copy_, run_underlying hu, hsrc.len, hmin, sizeOf, typeInfo, hi1, hi2, hc, hst]
  rw [hrun]
  exact hK _ _ (h w' hr hup)

/-- an array stored whole into a variable at the head of a block -/
theorem wpList_store_blk (hgd : o.guard = none) (ty : TypeId) (x y : Operand) (ho : o.op = .store ty x y) {b : Nat} (hx : a.eval x = .pointer (some ⟨b, 0, none⟩)) {cur : Array Value} {E : TypeId} (hb : w.heap[b]? = some (.cells cur E (0, 0)))
    {cs : List Value} (hy : a.eval y = .agg cs.toArray) (hlen : cs.length = cur.size) (hsz : (P.info? ty).map (·.size) = some cs.length) (h1 : ∀ u ∈ cs, u.oneCell' = true)
    (h : ∀ w', w'.heap[b]? = some (.cells cs.toArray E (0, 0)) → Upd [b] w w' → wpList P ops Q rest (a.put o.dst undef) w') : wpList P ops Q (o :: rest) a w := by
  refine wpList_plain hgd fun K hK => ?_
  obtain ⟨i, hi1, hi2⟩ := Option.map_eq_some_iff.1 hsz
  have hst := run_storeCells_at P b 0 E cs 0 cur w hb (by omega) h1
  simp only [Nat.add_zero, Nat.zero_add, List.take_zero, List.nil_append] at hst
  rw [List.drop_of_length_le (by rw [Array.length_toList]; omega), List.append_nil] at hst
  unfold Oper.wp execOp
  have hrun : (storeVar ty ⟨b, 0, none⟩ (.agg cs.toArray)).run P w = .ok () (w.setRow b cs.toArray) := by
    simp [storeVar, sizeOf, typeInfo, hi1, hi2, Value.cells, hst]
  simp only [ho, hx, hy, Instr.storeAt, Instr.sureAddr, Sem.run_bind, Sem.run_pure, Result.andThen_ok, hrun]
  exact hK _ _ (h _ (setRow_heap w b cur _ E _ hb) (Upd.setRow w b _))
end
theorem results_cell1 {fn : Func} {p : Tmp} {ty : TypeId} (h : fn.results = #[.cell p ty]) {tmps : Array Value} {P : Program} {w : World} {b : Nat} (hp : tmps.getD p undef = .pointer (some ⟨b, 0, none⟩)) {v : Value} (hl : (loadVar ty ⟨b, 0, none⟩).run P w = .ok v w) :
    (results fn tmps).run P w = .ok v w := by
  have hp' : tmps[p]?.getD undef = .pointer (some ⟨b, 0, none⟩) := by rw [← hp]; simp
  simp only [results, h]
  simp [hp', asAddr, hl]
/-- what is known behind a new block -/
theorem alloc_facts (w : World) (o : Obj) : (w.alloc o).heap[w.heap.size]? = some o ∧ Upd [] w (w.alloc o) ∧ (w.alloc o).heap.size = w.heap.size + 1 := ⟨heap_alloc_new w o, (Upd.refl [] w).alloc o, by simp⟩
/-- the cells of a block, as a range -/
theorem rangeAt_blk {w : World} {b : Nat} {cs : List Value} {E : TypeId} {fr : Nat × Nat} (h : w.heap[b]? = some (.cells cs.toArray E fr)) : w.rangeAt b 0 cs := fun j v hv => by
  simp [World.cell?, h, hv]
theorem Src.ofRange {P : Program} {w : World} {tx e' : TypeId} (hk : P.underlying tx = some (.slice e')) {size b o n c : Nat} {news : List Value} (hl : news.length = n * size) (hr : w.rangeAt b o news) (h1 : ∀ u ∈ news, u.oneCell' = true) :
    Src P size tx (.slice (some ⟨b, o, none⟩) n c) n news w := Src.ofSlice w hk ⟨b, o, none⟩ n c news hl (fun j u hj => by rw [Addr.add_lit]; exact hr j u hj) h1
end Go.Proofs.YtfbohkbpgfnceaaGreatDoor
/- Bytes that are compared: bytes.Equal, and rows by slices.Equal. -/
namespace Go.Proofs.YtfbohkbpgfnceaaGreatDoor
set_option linter.unusedVariables false
set_option linter.unusedSimpArgs false
open Go Go.RowKit
/-- the letters of bytes -/
def strOf (bs : List Value) : ByteArray := (bs.map intOf).foldl (fun r n => r.push (UInt8.ofNat n.toNat)) ByteArray.empty
theorem AllBytes.ints {bs : List Value} (h : AllBytes bs) : (bs.map intOf).map (Value.int .u8) = bs := by
  rw [List.map_map]
  induction bs with
  | nil => rfl
  | cons b bs ih =>
    obtain ⟨x, rfl, _⟩ := h b (by simp)
    simp only [List.map_cons, Function.comp, intOf]
    rw [ih (fun u hu => h u (by simp [hu]))]
theorem run_text (ao : Option Addr) (n c : Nat) (bs : List Value) (w : World) (hv : View w 1 ao n bs) (hb : AllBytes bs) : (convert 26 9 (.slice ao n c)).run Tryz.prog w = .ok (.string (strOf bs)) w := by
  have hl := hv.len
  rw [run_convert_bytes_string w 26 9 5 ao n c Tryz.underlying26 Tryz.underlying5 Tryz.underlying9]
  cases ao with
  | none =>
    by_cases h0 : n = 0
    · subst h0
      obtain rfl : bs = [] := List.eq_nil_of_length_eq_zero (by simpa using hl)
      simp [Conv.bytesToString, strOf]
    · obtain ⟨b, o, h, _⟩ := hv.at_ (by omega)
      cases h
  | some a =>
    refine run_bytesToString w a n c (bs.map intOf) ?_
    rw [hb.ints]
    have := run_loadCells_list (P := Tryz.prog) w a bs (fun j v hj => by
      have hn : 0 < n := by
        have := (List.getElem?_eq_some_iff.1 hj).1
        omega
      obtain ⟨b, o, h, hr, _⟩ := hv.at_ hn
      cases h
      rw [Addr.add_mid]; exact hr j v hj)
    rw [show bs.length = n by omega] at this
    exact this

end Go.Proofs.YtfbohkbpgfnceaaGreatDoor
/- A Buffer's words for a block's head: PutUVarInt under 128, PutUInt8, PutBool, PutInt32, PutInt. -/
namespace Go.Proofs.YtfbohkbpgfnceaaGreatDoor
set_option linter.unusedVariables false
set_option linter.unusedSimpArgs false
open Go Go.RowKit
theorem cellAt {w : World} {b : Nat} {cs : Array Value} {E : TypeId} {fr : Nat × Nat} (h : w.heap[b]? = some (.cells cs E fr)) (j : Nat) : w.cell? ⟨b, j, none⟩ = cs[j]? := by simp [World.cell?, h]
set_option maxRecDepth 100000 in
set_option maxHeartbeats 400000 in
theorem PutUvarint1 (g x : Nat) (cur : Array Value) (w : World) (h : w.heap[g]? = some (.cells cur 335 (0, 0))) (hc : cur.size = 10) (hx : x < 128) :
    Calls Tryz.prog 99 #[.slice (some ⟨g, 0, none⟩) 10 10, .int .u64 x] w fun e w' => e = .returned (.int .i64 1) ∧ w'.heap[g]? = some (.cells (cur.setIfInBounds 0 (.int .u8 x)) 335 (0, 0)) ∧ Upd [g] w w' := by
  obtain ⟨v, hv⟩ : ∃ v, cur[0]? = some v := ⟨cur[0]'(by omega), by simp⟩
  have c0 : w.cell? ⟨g, 0, none⟩ = some v := by simp [World.cell?, h, hv]
  have f0 : w.frozen? ⟨g, 0, none⟩ = false := by simp [World.frozen?, h]
  have hx' : ¬ ((128 : Int) ≤ x) := by omega
  go_enter Tryz.func99, Tryz.ntmps99
  go_wp2
  go_loopw [1, 5] (fun a i wr => a = .int .u64 x ∧ i = .int .i64 0 ∧ wr = w) (fun _ _ _ => 0)
  case atStart => exact ⟨rfl, rfl, rfl⟩
  case round =>
    obtain ⟨rfl, rfl, hw⟩ := hrel
    go_wp2
    go_ret
    exact ⟨rfl, heap_setCell_same _ _ _ _ _ _ h, (Upd.refl _ _).setCell _ (by simp)⟩

set_option maxRecDepth 100000 in
set_option maxHeartbeats 1000000 in
theorem PutUVarIntN (bp : Nat) (ao : Option Addr) (m cp : Nat) (bs : List Value) (x : Nat) (w : World) (h : Hold w bp 46 5 1 ao m cp bs) (hx : x < 128) (hm : m ≤ 1000000) :
    Calls Tryz.prog 61 #[.pointer (some ⟨bp, 0, none⟩), .int .u64 x] w fun e w' => e = .returned (.tuple #[]) ∧ Grew w w' bp 46 5 1 ao (m + 1) (bs ++ [.int .u8 x]) := by
  obtain ⟨k1, u1, s1⟩ := alloc_facts w (Obj.cells #[.int .u8 0, .int .u8 0, .int .u8 0, .int .u8 0, .int .u8 0, .int .u8 0, .int .u8 0, .int .u8 0, .int .u8 0, .int .u8 0] 335)
  have hH1 := h.kept u1 (by simp) (by simp)
  have hlt := h.lt
  have hbl := h.own.lt
  go_enter Tryz.func61, Tryz.ntmps61
  go_wp2_with (go_at_call 99; (with_reducible refine (PutUvarint1 w.heap.size x _ _ k1 rfl hx).mono ?_); rintro e w5 ⟨rfl, hA5, hv5⟩)
  have hne : ∀ y, y ∈ bk ao → y ∉ [w.heap.size] := fun y hy hy' => by
    simp at hy'; have := hbl y hy; omega
  have hH5 := hH1.kept hv5 (by simp; omega) hne
  have hU5 : Upd [] w w5 := u1.trans hv5 (fun y hy => by simp at hy; exact .inr (by omega))
  have hl5 := lt_of_block hA5
  have hr5 : w5.rangeAt w.heap.size 0 [.int .u8 (x : Nat)] := fun j v hj => by
    cases j with
    | zero => simp at hj; subst hj; simp only [World.cell?, hA5]; simp
    | succ j => simp at hj
  have hc5 := hH5.cell
  have hd5 := (Upd.refl [] w5).drew
  clear k1 u1 s1 hv5 hA5
  refine wp_region_split (S := Upd [] w5) [(false, 0), (true, 1), (true, 2), (true, 3), (true, 4), (true, 5), (true, 6)] [] [7, 8, 9, 10] (by kernel_rfl) (by kernel_rfl) (fun _ _ d _ _ h => by cases d <;> exact h) ((Upd.refl _ _).drew) ?_
  simp only [readsAt, opersAt, Option.map_some, List.filterMap_cons, List.filterMap_nil, List.getElem?_toArray, List.getElem?_cons_succ, List.getElem?_cons_zero]
  iterate 7 (refine ⟨_, Or.inl ⟨by rfl, fun w' hS => by first | (have e0 := Upd.cell1 hS hc5 (by simp); first | (go_simp; done) | (go_simp; with_reducible rfl)) | (go_simp; done) | (go_simp; with_reducible rfl)⟩, ?_⟩; simp only [Act.put, List.setIfInBounds_toArray, List.set_cons_zero, List.set_cons_succ])
  simp only [readsThen, preThen]
  change wpList _ _ _ [_, _, _, _] _ _
  have hH5' := hH5.kept hd5 (by simp) (by simp)
  go_wp2_with (at_builtin; refine wpList_app _ rfl (.tmp 14) (.tmp 16) 26 26 rfl 5 (.int .u8 0) 1 1 Tryz.underlying26 Tryz.info5 rfl (by decide) hH5'.own rfl (Src.ofRange Tryz.underlying26 (n := 1) rfl (hd5.range hr5 hl5 (by simp)) (by simp [Value.oneCell'])) rfl (by decide) (by omega) ?_; intro ao1 c1 w6 hown1 hupd1 hin1; have hc1 := hH5'.cell1 hupd1; have hf1 := hH5'.free1 hupd1)
  go_end0
  exact ⟨rfl, ao1, c1, hH5'.after hown1 hupd1 hin1, ((hU5.drew).mono (by simp)).trans (hH5'.upd hupd1 _) (fun _ h => .inl h), hin1.le (hU5.drew).size⟩
theorem PutUVarInt1 (bp : Nat) (ao : Option Addr) (m cp : Nat) (bs : List Value) (x : Int) (w : World) (h : Hold w bp 46 5 1 ao m cp bs) (h0 : 0 ≤ x) (hx : x < 128) (hm : m ≤ 1000000) :
    Calls Tryz.prog 61 #[.pointer (some ⟨bp, 0, none⟩), .int .u64 x] w fun e w' => e = .returned (.tuple #[]) ∧ Grew w w' bp 46 5 1 ao (m + 1) (bs ++ [.int .u8 x]) := by
  obtain ⟨n, rfl⟩ := Int.eq_ofNat_of_zero_le h0
  exact PutUVarIntN bp ao m cp bs n w h (by omega) hm
set_option maxRecDepth 100000 in
set_option maxHeartbeats 400000 in
theorem PutInt1 (bp : Nat) (ao : Option Addr) (m cp : Nat) (bs : List Value) (x : Int) (w : World) (h : Hold w bp 46 5 1 ao m cp bs) (h0 : 0 ≤ x) (hx : x < 128) (hm : m ≤ 1000000) :
    Calls Tryz.prog 64 #[.pointer (some ⟨bp, 0, none⟩), .int .i64 x] w fun e w' => e = .returned (.tuple #[]) ∧ Grew w w' bp 46 5 1 ao (m + 1) (bs ++ [.int .u8 x]) := by
  have hw : x % 18446744073709551616 = x := by omega
  go_enter Tryz.func64, Tryz.ntmps64
  go_wp2_with (go_at_call 61; apply stopHere)
  show Calls _ _ _ _ _
  try rw [hw]
  refine (PutUVarInt1 bp ao m cp bs x _ h h0 hx hm).mono ?_
  rintro e w1 ⟨rfl, hG⟩
  dsimp only
  go_wp2
  go_end0
  exact ⟨rfl, hG⟩
set_option maxRecDepth 100000 in
set_option maxHeartbeats 400000 in
theorem PutUInt8 (bp : Nat) (ao : Option Addr) (m cp : Nat) (bs : List Value) (x : Int) (w : World) (h : Hold w bp 46 5 1 ao m cp bs) (hm : m ≤ 1000000) :
    Calls Tryz.prog 100 #[.pointer (some ⟨bp, 0, none⟩), .int .u8 x] w fun e w' => e = .returned (.tuple #[]) ∧ Grew w w' bp 46 5 1 ao (m + 1) (bs ++ [.int .u8 x]) := by
  have hc := h.cell
  go_enter Tryz.func100, Tryz.ntmps100
  go_wp2_with (at_builtin; refine wpList_app1 _ rfl _ _ 26 rfl 5 (.int .u8 0) 1 1 Tryz.underlying26 Tryz.info5 rfl (by decide) h.own rfl [.int .u8 x] rfl rfl rfl (by simp [Value.oneCell']) (by decide) (by omega) ?_; intro ao1 c1 w1 hown1 hupd1 hin1; have hc1 := h.cell1 hupd1; have hf1 := h.free1 hupd1)
  go_end0
  exact ⟨rfl, _, _, h.after hown1 hupd1 hin1, h.upd hupd1 _, hin1⟩
def bitV (b : Bool) : Value := .int .u8 (if b then 1 else 0)
set_option maxRecDepth 100000 in
set_option maxHeartbeats 400000 in
theorem PutBool (bp : Nat) (ao : Option Addr) (m cp : Nat) (bs : List Value) (b : Bool) (w : World) (h : Hold w bp 46 5 1 ao m cp bs) (hm : m ≤ 1000000) :
    Calls Tryz.prog 62 #[.pointer (some ⟨bp, 0, none⟩), .bool b] w fun e w' => e = .returned (.tuple #[]) ∧ Grew w w' bp 46 5 1 ao (m + 1) (bs ++ [bitV b]) := by
  cases b <;> (go_enter Tryz.func62, Tryz.ntmps62) <;>
    (go_wp2_with (go_at_call 100; (refine (PutUInt8 bp ao m cp bs _ _ h hm).mono ?_); rintro e w1 ⟨rfl, hG⟩)) <;>
    (go_end0; exact ⟨rfl, hG⟩)
theorem setN4 (w : World) (g : Nat) (T : TypeId) (a b c d : Value) (x0 x1 x2 x3 : Value) (h : w.heap[g]? = some (.cells #[a, b, c, d] T (0, 0))) :
    ((((w.setCell ⟨g, 0, none⟩ x0).setCell ⟨g, 1, none⟩ x1).setCell ⟨g, 2, none⟩ x2).setCell ⟨g, 3, none⟩ x3).heap[g]? = some (.cells #[x0, x1, x2, x3] T (0, 0)) := by
  have h0 := heap_setCell_same w g 0 _ T x0 h
  have h1 := heap_setCell_same _ g 1 _ T x1 h0
  have h2 := heap_setCell_same _ g 2 _ T x2 h1
  have h3 := heap_setCell_same _ g 3 _ T x3 h2
  exact h3
set_option maxRecDepth 100000 in
set_option maxHeartbeats 1000000 in
theorem PutUint32A (g : Nat) (v : Int) (a b c d : Value) (w : World) (h : w.heap[g]? = some (.cells #[a, b, c, d] 352 (0, 0))) :
    Calls Tryz.prog 110 #[.agg #[], .slice (some ⟨g, 0, none⟩) 4 4, .int .u32 v] w fun e w' => e = .returned (.tuple #[]) ∧ w'.heap[g]? = some (.cells (leV 4 v).toArray 352 (0, 0)) ∧ Upd [g] w w' := by
  have k0 : w.cell? ⟨g, 0, none⟩ = some a := by simp [World.cell?, h]
  have k1 : w.cell? ⟨g, 1, none⟩ = some b := by simp [World.cell?, h]
  have k2 : w.cell? ⟨g, 2, none⟩ = some c := by simp [World.cell?, h]
  have k3 : w.cell? ⟨g, 3, none⟩ = some d := by simp [World.cell?, h]
  have f0 : w.frozen? ⟨g, 0, none⟩ = false := by simp [World.frozen?, h]
  have f1 : w.frozen? ⟨g, 1, none⟩ = false := by simp [World.frozen?, h]
  have f2 : w.frozen? ⟨g, 2, none⟩ = false := by simp [World.frozen?, h]
  have f3 : w.frozen? ⟨g, 3, none⟩ = false := by simp [World.frozen?, h]
  have hgs : g < w.heap.size := lt_of_block h
  go_enter Tryz.func110, Tryz.ntmps110
  go_wp2
  go_end0
  have hb : leV 4 v = [.int .u8 (v % 256), .int .u8 (v / 256 % 256), .int .u8 (v / 65536 % 256), .int .u8 (v / 16777216 % 256)] := by simp [leV, byteAt, List.range_succ]
  refine ⟨rfl, ?_, ?_⟩
  · rw [hb]
    exact ((Upd.refl [] _).alloc _).at (setN4 w g _ a b c d _ _ _ _ h) (by simp)
  · repeat (with_reducible first | exact Upd.refl _ _ | refine Upd.alloc ?_ _ | refine Upd.setCell ?_ _ (by simp) | refine Upd.drew ?_)
theorem byteAt_wrap (b : Int) (i : Nat) (hi : i < 4) : byteAt (b % 4294967296) i = byteAt b i := by
  unfold byteAt
  have : i = 0 ∨ i = 1 ∨ i = 2 ∨ i = 3 := by omega
  rcases this with rfl | rfl | rfl | rfl <;> simp <;> omega
theorem byteAt_wrap64 (b : Int) (i : Nat) (hi : i < 4) : byteAt (b % 18446744073709551616) i = byteAt b i := by
  unfold byteAt
  have : i = 0 ∨ i = 1 ∨ i = 2 ∨ i = 3 := by omega
  rcases this with rfl | rfl | rfl | rfl <;> simp <;> omega
theorem leV_wrap (b : Int) : leV 4 (b % 4294967296) = leV 4 b := by
  unfold leV
  apply List.map_congr_left
  intro i hi
  rw [byteAt_wrap b i (by simpa using hi)]
theorem leV_wrap64 (b : Int) : leV 4 (b % 18446744073709551616) = leV 4 b := by
  unfold leV
  apply List.map_congr_left
  intro i hi
  rw [byteAt_wrap64 b i (by simpa using hi)]
set_option maxRecDepth 100000 in
set_option maxHeartbeats 1000000 in
theorem PutUInt32 (bp : Nat) (ao : Option Addr) (m cp : Nat) (bs : List Value) (x : Int) (w : World) (h : Hold w bp 46 5 1 ao m cp bs) (hm : m ≤ 1000000) :
    Calls Tryz.prog 101 #[.pointer (some ⟨bp, 0, none⟩), .int .u32 x] w fun e w' => e = .returned (.tuple #[]) ∧ Grew w w' bp 46 5 1 ao (m + 4) (bs ++ leV 4 x) := by
  obtain ⟨k1, u1, s1⟩ := alloc_facts w (Obj.cells #[.int .u8 0, .int .u8 0, .int .u8 0, .int .u8 0] 352)
  have hH1 := h.kept u1 (by simp) (by simp)
  have hlt := h.lt
  have hbl := h.own.lt
  go_enter Tryz.func101, Tryz.ntmps101
  go_wp2
  generalize w.alloc (Obj.cells #[.int .u8 0, .int .u8 0, .int .u8 0, .int .u8 0] 352) = W at *
  have k1' : W.drew.heap[w.heap.size]? = some (.cells #[.int .u8 0, .int .u8 0, .int .u8 0, .int .u8 0] 352 (0, 0)) := k1
  refine wp_region_split (S := Upd [] W) [(true, 0), (true, 1), (true, 2)] [] [3] (by kernel_rfl) (by kernel_rfl) (fun _ _ d _ _ h => by cases d <;> exact h) ((Upd.refl _ _).drew) ?_
  simp only [readsAt, opersAt, Option.map_some, List.filterMap_cons, List.filterMap_nil, List.getElem?_toArray, List.getElem?_cons_succ, List.getElem?_cons_zero]
  iterate 3 (refine ⟨_, Or.inl ⟨by rfl, fun w' hS => by first | (skip; first | (go_simp; done) | (go_simp; with_reducible rfl)) | (go_simp; done) | (go_simp; with_reducible rfl)⟩, ?_⟩; simp only [Act.put, List.setIfInBounds_toArray, List.set_cons_zero, List.set_cons_succ])
  simp only [readsThen, preThen]
  change wpList _ _ _ [_] _ _
  go_wp2_with (go_at_call 110; (with_reducible refine (PutUint32A w.heap.size x _ _ _ _ _ k1').mono ?_); rintro e w5 ⟨rfl, hA5, hv5⟩)
  have hne : ∀ y, y ∈ bk ao → y ∉ [w.heap.size] := fun y hy hy' => by
    simp at hy'; have := hbl y hy; omega
  have hH5 := hH1.kept hv5.ofDrew (by simp; omega) hne
  have hU5 : Upd [] w w5 := u1.trans hv5.ofDrew (fun y hy => by simp at hy; exact .inr (by omega))
  have hl5 := lt_of_block hA5
  have hr5 : w5.rangeAt w.heap.size 0 (leV 4 x) := rangeAt_blk hA5
  have hc5 := hH5.cell
  have hd5 := (Upd.refl [] w5).drew
  clear k1 k1' u1 s1 hv5 hA5
  refine wp_region_split (S := Upd [] w5) [(false, 0), (true, 1), (true, 2), (true, 3), (true, 4), (true, 5)] [] [6, 7, 8, 9] (by kernel_rfl) (by kernel_rfl) (fun _ _ d _ _ h => by cases d <;> exact h) ((Upd.refl _ _).drew) ?_
  simp only [readsAt, opersAt, Option.map_some, List.filterMap_cons, List.filterMap_nil, List.getElem?_toArray, List.getElem?_cons_succ, List.getElem?_cons_zero]
  iterate 6 (refine ⟨_, Or.inl ⟨by rfl, fun w' hS => by first | (have e0 := Upd.cell1 hS hc5 (by simp); first | (go_simp; done) | (go_simp; with_reducible rfl)) | (go_simp; done) | (go_simp; with_reducible rfl)⟩, ?_⟩; simp only [Act.put, List.setIfInBounds_toArray, List.set_cons_zero, List.set_cons_succ])
  simp only [readsThen, preThen]
  change wpList _ _ _ [_, _, _, _] _ _
  have hH5' := hH5.kept hd5 (by simp) (by simp)
  go_wp2_with (at_builtin; refine wpList_app _ rfl (.tmp 14) (.tmp 15) 26 26 rfl 5 (.int .u8 0) 1 1 Tryz.underlying26 Tryz.info5 rfl (by decide) hH5'.own rfl (Src.ofRange Tryz.underlying26 (n := 4) (leV_len 4 x) (hd5.range hr5 hl5 (by simp)) (leV_bytes 4 x).one) rfl (by decide) (by omega) ?_; intro ao1 c1 w6 hown1 hupd1 hin1; have hc1 := hH5'.cell1 hupd1; have hf1 := hH5'.free1 hupd1)
  go_end0
  exact ⟨rfl, ao1, c1, hH5'.after hown1 hupd1 hin1, ((hU5.drew).mono (by simp)).trans (hH5'.upd hupd1 _) (fun _ h => .inl h), hin1.le (hU5.drew).size⟩
set_option maxRecDepth 100000 in
set_option maxHeartbeats 400000 in
theorem PutInt32 (bp : Nat) (ao : Option Addr) (m cp : Nat) (bs : List Value) (x : Int) (w : World) (h : Hold w bp 46 5 1 ao m cp bs) (hm : m ≤ 1000000) :
    Calls Tryz.prog 63 #[.pointer (some ⟨bp, 0, none⟩), .int .i32 x] w fun e w' => e = .returned (.tuple #[]) ∧ Grew w w' bp 46 5 1 ao (m + 4) (bs ++ leV 4 x) := by
  have hw := leV_wrap x
  go_enter Tryz.func63, Tryz.ntmps63
  go_wp2_with (go_at_call 101; (refine (PutUInt32 bp ao m cp bs _ _ h hm).mono ?_); rintro e w1 ⟨rfl, hG⟩)
  go_end0
  rw [hw] at hG
  exact ⟨rfl, hG⟩
end Go.Proofs.YtfbohkbpgfnceaaGreatDoor
/- A block without columns is encoded. -/
namespace Go.Proofs.YtfbohkbpgfnceaaGreatDoor
set_option linter.unusedVariables false
set_option linter.unusedSimpArgs false
open Go Go.RowKit
theorem newBufB (w : World) : Hold (w.alloc (.cells #[.slice none 0 0] 46)) w.heap.size 46 5 1 none 0 0 [] := ⟨heap_alloc_new _ _, Row.nil, by simp⟩
/-- a buffer behind some puts -/
structure Gr (w0 : World) (bp : Nat) (ao0 : Option Addr) (w : World) (ao : Option Addr) (n c : Nat) (ys : List Value) : Prop where
  hold : Hold w bp 46 5 1 ao n c ys
  upd : Upd (bp :: bk ao0) w0 w
  inn : In (bk ao0) w0.heap.size ao
theorem Gr.start {w : World} {bp : Nat} {ao : Option Addr} {n c : Nat} {ys : List Value} (h : Hold w bp 46 5 1 ao n c ys) : Gr w bp ao w ao n c ys := ⟨h, Upd.refl _ _, In.self (fun _ h => h)⟩
theorem Gr.step {w0 w w' : World} {bp : Nat} {ao0 ao ao' : Option Addr} {n c n' c' : Nat} {ys ys' : List Value} (h : Gr w0 bp ao0 w ao n c ys)
    (k : Hold w' bp 46 5 1 ao' n' c' ys') (u : Upd (bp :: bk ao) w w') (i : In (bk ao) w.heap.size ao') : Gr w0 bp ao0 w' ao' n' c' ys' :=
  ⟨k, h.upd.trans u (fun y hy => by
    rcases List.mem_cons.1 hy with e | e
    · exact .inl (by rw [e]; exact List.mem_cons_self)
    · rcases h.inn y e with e | e
      · exact .inl (List.mem_cons_of_mem _ e)
      · exact .inr e), h.inn.step i h.upd.size⟩
/-- behind an allocation ahead of it -/
theorem Gr.grew {w0 w1 w : World} {bp : Nat} {ao0 ao : Option Addr} {n c : Nat} {ys : List Value} (h : Gr w1 bp ao0 w ao n c ys) (u : Upd [] w0 w1) : Grew w0 w bp 46 5 1 ao0 n ys :=
  ⟨ao, c, h.hold, (u.mono (by simp)).trans h.upd (fun _ h => .inl h), h.inn.le u.size⟩
/-- the bytes of what is told of a block -/
def infoV (ov : Bool) (b : Int) : List Value := [.int .u8 1, bitV ov, .int .u8 2] ++ leV 4 b ++ [.int .u8 0]
theorem infoV_len (ov : Bool) (b : Int) : (infoV ov b).length = 8 := by simp [infoV, leV_len]
theorem bitV_bytes (b : Bool) : AllBytes [bitV b] := by
  intro u hu
  simp at hu
  subst hu
  cases b
  · exact ⟨0, rfl, by omega, by omega⟩
  · exact ⟨1, rfl, by omega, by omega⟩
theorem one_bytes (x : Int) (h0 : 0 ≤ x) (h1 : x < 256) : AllBytes [Value.int .u8 x] := by
  intro u hu
  simp at hu
  subst hu
  exact ⟨x, rfl, h0, h1⟩
theorem infoV_bytes (ov : Bool) (b : Int) : AllBytes (infoV ov b) :=
  ((((one_bytes 1 (by omega) (by omega)).append (bitV_bytes ov)).append (one_bytes 2 (by omega) (by omega))).append (leV_bytes 4 b)).append (one_bytes 0 (by omega) (by omega))
set_option maxRecDepth 100000 in
set_option maxHeartbeats 1000000 in
theorem InfoEncode (bp : Nat) (ao : Option Addr) (m cp : Nat) (bs : List Value) (ov : Bool) (b : Int) (w : World) (h : Hold w bp 46 5 1 ao m cp bs) (hm : m ≤ 100000) (hb : -2147483648 ≤ b ∧ b < 2147483648) :
    Calls Tryz.prog 25 #[.agg #[.bool ov, .int .i64 b], .pointer (some ⟨bp, 0, none⟩)] w fun e w' => e = .returned (.tuple #[]) ∧ Grew w w' bp 46 5 1 ao (m + 8) (bs ++ infoV ov b) := by
  obtain ⟨k1, u1, s1⟩ := alloc_facts w (Obj.cells #[.bool ov, .int .i64 b] 50)
  have hG0 := Gr.start (h.kept u1 (by simp) (by simp))
  have hlt := h.lt
  have hbl := h.own.lt
  have hnb : w.heap.size ∉ bp :: bk ao := fun hx => by
    rcases List.mem_cons.1 hx with e | e
    · omega
    · have := hbl _ e; omega
  have p0 : (w.alloc (Obj.cells #[.bool ov, .int .i64 b] 50)).cell? ⟨w.heap.size, 0, none⟩ = some (.bool ov) := (cellAt k1 0).trans rfl
  have p1 : (w.alloc (Obj.cells #[.bool ov, .int .i64 b] 50)).cell? ⟨w.heap.size, 1, none⟩ = some (.int .i64 b) := (cellAt k1 1).trans rfl
  have hwb : IntKind.i32.wrap b = b := by simp only [IntKind.wrap_i32]; omega
  go_enter Tryz.func25, Tryz.ntmps25
  go_wp2_with (first
    | (go_at_call 61; (with_reducible refine (PutUVarInt1 bp _ _ _ _ 1 _ hG0.hold (by decide) (by decide) (by omega)).mono ?_); rintro e w1 ⟨rfl, ao1, c1, hH1, hU1, hI1⟩; have hG1 := hG0.step hH1 hU1 hI1; have q0 := hG1.upd.cell1 p0 hnb)
    | (go_at_call 62; (with_reducible refine (PutBool bp _ _ _ _ ov _ hG1.hold (by omega)).mono ?_); rintro e w2 ⟨rfl, ao2, c2, hH2, hU2, hI2⟩; have hG2 := hG1.step hH2 hU2 hI2)
    | (go_at_call 61; (with_reducible refine (PutUVarInt1 bp _ _ _ _ 2 _ hG2.hold (by decide) (by decide) (by omega)).mono ?_); rintro e w3 ⟨rfl, ao3, c3, hH3, hU3, hI3⟩; have hG3 := hG2.step hH3 hU3 hI3; have q1 := hG3.upd.cell1 p1 hnb)
    | (go_at_call 63; (with_reducible refine (PutInt32 bp _ _ _ _ b _ hG3.hold (by omega)).mono ?_); rintro e w4 ⟨rfl, ao4, c4, hH4, hU4, hI4⟩; have hG4 := hG3.step hH4 hU4 hI4)
    | (go_at_call 61; (with_reducible refine (PutUVarInt1 bp _ _ _ _ 0 _ hG4.hold (by decide) (by decide) (by omega)).mono ?_); rintro e w5 ⟨rfl, ao5, c5, hH5, hU5, hI5⟩; have hG5 := hG4.step hH5 hU5 hI5))
  go_end0
  refine ⟨rfl, ?_⟩
  have := hG5.grew u1
  simpa [infoV, Nat.add_assoc] using this
set_option maxRecDepth 100000 in
set_option maxHeartbeats 400000 in
theorem FeatIn (f v : Int) (w : World) : Calls Tryz.prog 24 #[.int .i64 f, .int .i64 v] w fun e w' => e = .returned (.bool (decide (f ≤ v))) ∧ w' = w := by
  go_enter Tryz.func24, Tryz.ntmps24
  go_wp2
  go_ret
  exact ⟨by simp, rfl⟩
/-- the bytes of a block without columns -/
def blockV (v : Int) (ov : Bool) (b : Int) : List Value := (if 51903 ≤ v then infoV ov b else []) ++ [.int .u8 0, .int .u8 0]
theorem blockV_bytes (v : Int) (ov : Bool) (b : Int) : AllBytes (blockV v ov b) := by
  unfold blockV
  refine AllBytes.append ?_ ((one_bytes 0 (by omega) (by omega)).append (one_bytes 0 (by omega) (by omega)))
  split
  · exact infoV_bytes _ _
  · exact AllBytes.nil
theorem blockV_len (v : Int) (ov : Bool) (b : Int) : (blockV v ov b).length = (if 51903 ≤ v then 10 else 2) := by
  unfold blockV
  split <;> simp [infoV_len]
/-- a Block -/
def blkV (ov : Bool) (b c r : Int) : Value := .agg #[.bool ov, .int .i64 b, .int .i64 c, .int .i64 r]
/-- a head -/
def headV (ov : Bool) (b c r : Int) : Value := .agg #[.bool ov, .int .i64 b, .int .i64 c, .int .i64 r]
theorem wpList_load_midG {P : Program} {ops : Array Oper} {rest : List Oper} {op : Oper} {a : Act} {w : World} {Q : Exit → Act → World → Prop} (hw : Region.wanted op (yielded ops a.tmps) = true) (ty : TypeId) (x : Operand) (ho : op.op = .load ty x)
    (b o : Nat) (hx : a.eval x = .pointer (some ⟨b, o, none⟩)) (cs : List Value) (d : TypeDesc) (hc : w.rangeAt b o cs)
    (hu : P.underlying ty = some d) (hd : d.isRow = true) (hi : (P.info? ty).map (·.size) = some cs.length)
    (h : wpList P ops Q rest (a.put op.dst (.agg cs.toArray)) w) : wpList P ops Q (op :: rest) a w :=
  wpList_step fun K hK => by
    rw [if_pos hw]
    exact wp_load_mid ty x ho b o hx cs d hc hu hd hi (hK _ _ h)
set_option maxRecDepth 100000 in
set_option maxHeartbeats 1000000 in
theorem block_of (ov : Bool) (b c r : Int) (w : World) : Calls Tryz.prog 14 #[headV ov b c r] w fun e w' => e = .returned (blkV ov b c r) ∧ Upd [] w w' := by
  obtain ⟨k1, u1, s1⟩ := alloc_facts w (Obj.cells #[.bool ov, .int .i64 b, .int .i64 c, .int .i64 r] 30)
  obtain ⟨k2, u2, s2⟩ := alloc_facts (w.alloc (Obj.cells #[.bool ov, .int .i64 b, .int .i64 c, .int .i64 r] 30)) (Obj.cells #[.bool false, .int .i64 0, .int .i64 0, .int .i64 0] 52)
  have k1' := u2.at k1 (by simp)
  rw [s1] at k2
  have p0 : ((w.alloc (Obj.cells #[.bool ov, .int .i64 b, .int .i64 c, .int .i64 r] 30)).alloc (Obj.cells #[.bool false, .int .i64 0, .int .i64 0, .int .i64 0] 52)).cell? ⟨w.heap.size, 0, none⟩ = some (.bool ov) := (cellAt k1' 0).trans rfl
  have p1 : ((w.alloc (Obj.cells #[.bool ov, .int .i64 b, .int .i64 c, .int .i64 r] 30)).alloc (Obj.cells #[.bool false, .int .i64 0, .int .i64 0, .int .i64 0] 52)).cell? ⟨w.heap.size, 1, none⟩ = some (.int .i64 b) := (cellAt k1' 1).trans rfl
  have p2 : ((w.alloc (Obj.cells #[.bool ov, .int .i64 b, .int .i64 c, .int .i64 r] 30)).alloc (Obj.cells #[.bool false, .int .i64 0, .int .i64 0, .int .i64 0] 52)).cell? ⟨w.heap.size, 2, none⟩ = some (.int .i64 c) := (cellAt k1' 2).trans rfl
  have p3 : ((w.alloc (Obj.cells #[.bool ov, .int .i64 b, .int .i64 c, .int .i64 r] 30)).alloc (Obj.cells #[.bool false, .int .i64 0, .int .i64 0, .int .i64 0] 52)).cell? ⟨w.heap.size, 3, none⟩ = some (.int .i64 r) := (cellAt k1' 3).trans rfl
  go_enter Tryz.func14, Tryz.ntmps14
  simp only [headV]
  go_wp2_with ((with_reducible show wpList _ _ _ _ _ _); refine wpList_store_blk rfl 52 (.tmp 2) (.tmp 12) rfl (b := w.heap.size + 1) rfl k2 (cs := [.bool ov, .int .i64 b, .int .i64 c, .int .i64 r]) rfl rfl (by kernel_rfl) (by simp [Value.oneCell']) ?_; intro w4 hb4 hu4; simp only [Act.put])
  refine bodyPost_ret (v := blkV ov b c r) (results_cell1 Tryz.results14 (b := w.heap.size + 1) rfl (run_loadVar_mid w4 (w.heap.size + 1) 0 52 [.bool ov, .int .i64 b, .int .i64 c, .int .i64 r] _ (rangeAt_blk hb4) Tryz.underlying52 rfl (by kernel_rfl))) rfl ⟨rfl, ?_⟩
  exact (u1.trans u2 (fun _ h => .inl h)).trans hu4 (fun y hy => by simp at hy; exact .inr (by omega))
end Go.Proofs.YtfbohkbpgfnceaaGreatDoor
/- A Reader over bytes: its own buffer, a byte, numbers of it. -/
namespace Go.Proofs.YtfbohkbpgfnceaaGreatDoor
set_option linter.unusedVariables false
set_option linter.unusedSimpArgs false
open Go Go.RowKit
theorem Row.setOther {w : World} {e : TypeId} {size : Nat} {ao : Option Addr} {n c : Nat} {xs : List Value} (ho : Row w e size ao n c xs) {p : Nat} (hne : p ∉ bk ao) (u : Value) : Row (w.setCell ⟨p, 0, none⟩ u) e size ao n c xs :=
  ownsRow_setCell_other ho (by cases ao <;> simp_all [Value.ownBlock, eq_comm]) _
theorem Hold.stored {w : World} {p : Nat} {T e : TypeId} {size : Nat} {ao : Option Addr} {n c : Nat} {xs : List Value} {u : Value} (hb : w.heap[p]? = some (.cells #[u] T (0, 0))) (ho : Row w e size ao n c xs) (hne : p ∉ bk ao) : Hold (w.setCell ⟨p, 0, none⟩ (.slice ao n c)) p T e size ao n c xs :=
  ⟨one_setCell hb, ownsRow_setCell_other ho (by cases ao <;> simp_all [Value.ownBlock, eq_comm]) _, hne⟩
theorem wpList_make {P : Program} {w : World} {ops : Array Oper} {rest : List Oper} {o : Oper} {a : Act} {Q : Exit → Act → World → Prop} (hgd : o.guard = none) (t e : TypeId) (l c : Operand) (ho : o.op = .makeSlice t l c)
    (z : Value) (size bytes : Nat) (ht : P.underlying t = some (.slice e)) (hinfo : (P.info? e).map (fun i => (i.zero, i.size, i.bytes)) = some (some z, size, bytes)) {kl kc : IntKind} (n : Nat) (hl : a.eval l = .int kl n) (hc : a.eval c = .int kc n)
    (hn : n ≤ 100000) (hb : bytes * n ≤ 281474976710656)
    (h : wpList P ops Q rest (a.put o.dst (.slice (some ⟨w.heap.size, 0, none⟩) n n)) (w.alloc (.cells (madeCells z.cells (n * size)) e))) : wpList P ops Q (o :: rest) a w := by
  refine wpList_plain hgd fun K hK => ?_
  obtain ⟨i, hi, hz, hs, hby⟩ := info_parts hinfo
  subst hs hby
  have hb' : (i.bytes : Int) * (n : Int) ≤ 281474976710656 := by
    have h : ((i.bytes * n : Nat) : Int) ≤ 281474976710656 := by omega
    rwa [Int.natCast_mul] at h
  have hr := run_make (P := P) w t e i z ht hi hz kl kc n n (by omega) (Int.le_refl _) hb' (by omega)
  simp only [Int.toNat_natCast] at hr
  unfold Oper.wp execOp
  simp only [ho, hl, hc, Sem.run_bind, hr, Result.andThen_ok, Sem.run_pure]
  exact hK _ _ h
theorem made1 (v : Value) (n : Nat) : madeCells #[v] n = Array.replicate n v := by
  apply Array.ext
  · simp [size_madeCells]
  · intro i h1 h2
    simp [madeCells, Nat.mod_one]
/-- copy(dst, src), src no shorter than dst -/
theorem wpList_copyHead {P : Program} {w : World} {ops : Array Oper} {rest : List Oper} {o : Oper} {a : Act} {Q : Exit → Act → World → Prop} (hgd : o.guard = none) (d s : Operand) (dT sT : TypeId) (ho : o.op = .call { callee := .builtin .copy, args := #[d, s], argTypes := #[dT, sT] })
    (e : TypeId) (hu : P.underlying dT = some (.slice e)) (hsz : (P.info? e).map (·.size) = some 1) {g n c : Nat} (hd : a.eval d = .slice (some ⟨g, 0, none⟩) n c)
    {b off m mc : Nat} {news : List Value} (hs : a.eval s = .slice (some ⟨b, off, none⟩) m mc) (hr : w.rangeAt b off news) (hl : news.length = n) (h1 : ∀ u ∈ news, u.oneCell' = true) {e' : TypeId} {xs : List Value} (hrow : Row w e' 1 (some ⟨g, 0, none⟩) n c xs)
    (hm : n ≤ m)
    (h : ∀ w', Row w' e' 1 (some ⟨g, 0, none⟩) n c news → Upd [g] w w' → wpList P ops Q rest (a.put o.dst (goInt n)) w') : wpList P ops Q (o :: rest) a w := by
  refine wpList_plain hgd fun K hK => ?_
  obtain ⟨w', hst, hr', hup⟩ := hrow.put 0 news (by omega) h1 P
  obtain ⟨i, hi1, hi2⟩ := Option.map_eq_some_iff.1 hsz
  have hc := run_firstCells_some (P := P) w 1 n ⟨b, off, none⟩ m mc news (by omega) (fun j u hj => by rw [Addr.add_mid]; exact hr j u hj)
  have hmin : Nat.min m n = n := Nat.min_eq_right hm
  have hxs : putAt xs 0 news = news := by
    have := hrow.len
    simp only [putAt, List.take_zero, List.nil_append, Nat.zero_add]
    rw [List.drop_of_length_le (by omega), List.append_nil]
  rw [hxs] at hr'
  unfold Oper.wp execOp
  simp only [ho, resolve, invoke, builtin, Sem.run_bind, Sem.run_pure, Result.andThen_ok, List.map_toArray, List.map_cons, List.map_nil, hd, hs]
  have hlen : (Builtin.lenOf (.slice (some ⟨b, off, none⟩) m mc)).run P w = .ok m w := rfl
  have hrun : (Builtin.copy_ #[dT, sT] o.type #[.slice (some ⟨g, 0, none⟩) n c, .slice (some ⟨b, off, none⟩) m mc]).run P w = .ok (goInt n) w' := by
    simp [Builtin.copy_, run_underlying hu, hlen, hmin, sizeOf, typeInfo, hi1, hi2, hc, hst]
  rw [hrun]
  exact hK _ _ (h w' hr' hup)

/-- a row that is sliced to n within its capacity -/
theorem Row.upto {w : World} {e : TypeId} {g n0 c : Nat} {xs : List Value} (h : Row w e 1 (some ⟨g, 0, none⟩) n0 c xs) (n : Nat) (hn : n ≤ c) : ∃ ys, Row w e 1 (some ⟨g, 0, none⟩) n c ys := by
  rcases h.2 with ⟨h1, _⟩ | ⟨g', cap, cur, hv, hbg, hg, hnc, hcm, hcs, htake⟩
  · cases h1
  · simp only [Value.slice.injEq, Option.some.injEq, Addr.mk.injEq, and_true] at hv
    obtain ⟨rfl, _, rfl⟩ := hv
    refine ⟨cur.toList.take (n * 1), ?_, .inr ⟨g, c, cur, rfl, hbg, hg, hn, hcm, hcs, rfl⟩⟩
    rw [List.length_take, Array.length_toList, hcs]
    omega
/-- the buffer bf holds n bytes of its own -/
def Ensured (w w' : World) (bf n : Nat) (ao : Option Addr) : Prop := ∃ g c' ys, Hold w' bf 46 5 1 (some ⟨g, 0, none⟩) n c' ys ∧ Upd [bf] w w' ∧ In (bk ao) w.heap.size (some ⟨g, 0, none⟩)
set_option maxRecDepth 100000 in
set_option maxHeartbeats 1000000 in
theorem EnsureB (bf n : Nat) (ao : Option Addr) (n0 c0 : Nat) (xs : List Value) (w : World) (h : Hold w bf 46 5 1 ao n0 c0 xs) (h0 : 0 < n) (hn : n ≤ 1000) :
    Calls Tryz.prog 116 #[.pointer (some ⟨bf, 0, none⟩), .int .i64 n] w fun e w' => e = .returned (.tuple #[]) ∧ Ensured w w' bf n ao := by
  have hc := h.cell
  have hlt := h.lt
  have hb := h.blk
  by_cases hcap : c0 < n
  · have hcI : (c0 : Int) < n := by omega
    go_enter Tryz.func116, Tryz.ntmps116
    obtain ⟨k1, u1, s1⟩ := alloc_facts w (Obj.cells (madeCells #[.int .u8 0] n) 5)
    have hb1 := u1.at hb (by simp)
    have c1 := cell_of_one hb1
    have f1 := free_of_one hb1
    go_wp2_with ((with_reducible show wpList _ _ _ _ _ _); refine wpList_make rfl 26 5 (.tmp 12) (.tmp 12) rfl (.int .u8 0) 1 1 Tryz.underlying26 Tryz.info5 n rfl rfl (by omega) (by omega) ?_; simp only [Act.put])
    go_end0
    have hk := heap_alloc_new (w.setCell ⟨bf, 0, none⟩ (Value.slice (some ⟨w.heap.size, 0, none⟩) n n)) (Obj.cells (madeCells #[.int .u8 0] n) 5)
    rw [World.size_setCell] at hk
    refine ⟨rfl, w.heap.size, n, Array.toList (madeCells #[.int .u8 0] n), ⟨((Upd.refl [] _).alloc _).at (one_setCell hb) (by simp), ?_, by simp; omega⟩, ((Upd.refl [bf] w).setCell (p := ⟨bf, 0, none⟩) (Value.slice (some ⟨w.heap.size, 0, none⟩) n n) (by simp)).alloc _, fun y hy => by simp at hy; exact .inr (by omega)⟩
    refine Row.of _ hk (Nat.le_refl _) (by unfold maxLen; omega) (by simp [size_madeCells]) ?_
    rw [List.take_of_length_le (by simp [size_madeCells])]
  · have hcI : ¬ (c0 : Int) < n := by omega
    have hcJ : (n : Int) ≤ c0 := by omega
    rcases h.own.head_or with ⟨rfl, rfl, rfl, rfl⟩ | ⟨g, rfl⟩
    · omega
    · obtain ⟨ys, hy⟩ := h.own.upto n (by omega)
      have f1 := h.free
      have hcn : ¬ c0 = 0 := by omega
      go_enter Tryz.func116, Tryz.ntmps116
      go_wp2
      go_end0
      refine ⟨rfl, g, c0, ys, Hold.stored hb hy h.ne, (Upd.refl _ _).setCell _ (by simp), In.self (fun _ h => h)⟩
set_option maxRecDepth 100000 in
set_option maxHeartbeats 1000000 in
theorem ReadFullB (rd bf d o L c g C n : Nat) (bs xs : List Value) (w : World) (h1 : w.heap[rd]? = some (.cells #[.slice (some ⟨d, o, none⟩) L c, .pointer (some ⟨bf, 0, none⟩)] 216 (0, 0))) (hr : w.rangeAt d o bs) (hl : bs.length = L) (hLc : L ≤ c)
    (hrow : Row w 5 1 (some ⟨g, 0, none⟩) n C xs) (hnL : n ≤ L) (nrg : rd ≠ g) (hb : AllBytes bs) :
    Calls Tryz.prog 117 #[.pointer (some ⟨rd, 0, none⟩), .slice (some ⟨g, 0, none⟩) n C] w fun e w' => e = .returned .nilIface ∧ Row w' 5 1 (some ⟨g, 0, none⟩) n C (bs.take n) ∧
      (∃ o', w'.heap[rd]? = some (.cells #[.slice (some ⟨d, o', none⟩) (L - n) (c - n), .pointer (some ⟨bf, 0, none⟩)] 216 (0, 0)) ∧ (0 < L - n → o' = o + n)) ∧ Upd [rd, g] w w' := by
  have r0 : w.cell? ⟨rd, 0, none⟩ = some (.slice (some ⟨d, o, none⟩) L c) := by simp [World.cell?, h1]
  have r1 : w.cell? ⟨rd, 1, none⟩ = some (.pointer (some ⟨bf, 0, none⟩)) := by simp [World.cell?, h1]
  have fr : w.frozen? ⟨rd, 0, none⟩ = false := by simp [World.frozen?, h1]
  have hnI : ¬ (L : Int) < n := by omega
  have hnJ : (n : Int) ≤ L := by omega
  have hr' : w.rangeAt d o (bs.take n) := fun j v hj => hr j v (by
    rw [List.getElem?_take] at hj
    split at hj
    · exact hj
    · cases hj)
  have htl : (bs.take n).length = n := by rw [List.length_take]; omega
  have ht1 : ∀ u ∈ bs.take n, u.oneCell' = true := fun u hu => hb.one u (List.mem_of_mem_take hu)
  by_cases hcn : c = n
  · go_enter Tryz.func117, Tryz.ntmps117
    go_wp2_with ((with_reducible show wpList _ _ _ _ _ _); refine wpList_copyHead rfl (.tmp 16) (.tmp 20) 26 26 rfl 5 Tryz.underlying26 (by kernel_rfl) rfl rfl hr' htl ht1 hrow hnL ?_; intro w1 hr1 hu1; simp only [Act.put]; have q0 := hu1.cell1 r0 (by simpa using nrg); have q1 := hu1.cell1 r1 (by simpa using nrg); have k1 := hu1.at h1 (by simpa using nrg); have fq : w1.frozen? ⟨rd, 0, none⟩ = false := by simp [World.frozen?, k1])
    go_ret
    have k2 := heap_setCell_same w1 rd 0 _ _ (.slice (some ⟨d, o, none⟩) (L - n) (c - n)) k1
    refine ⟨rfl, ?_, ⟨o, ?_, fun h => by omega⟩, ?_⟩
    · first | exact hr1.setOther (by simpa using nrg) _ | exact hr1.setOther (by simp; omega) _
    · simpa [hcn] using k2
    · exact (hu1.mono (by simp)).setCell _ (by simp)
  · go_enter Tryz.func117, Tryz.ntmps117
    go_wp2_with ((with_reducible show wpList _ _ _ _ _ _); refine wpList_copyHead rfl (.tmp 16) (.tmp 20) 26 26 rfl 5 Tryz.underlying26 (by kernel_rfl) rfl rfl hr' htl ht1 hrow hnL ?_; intro w1 hr1 hu1; simp only [Act.put]; have q0 := hu1.cell1 r0 (by simpa using nrg); have q1 := hu1.cell1 r1 (by simpa using nrg); have k1 := hu1.at h1 (by simpa using nrg); have fq : w1.frozen? ⟨rd, 0, none⟩ = false := by simp [World.frozen?, k1])
    go_ret
    have k2 := heap_setCell_same w1 rd 0 _ _ (.slice (some ⟨d, o + n, none⟩) (L - n) (c - n)) k1
    refine ⟨rfl, ?_, ⟨o + n, ?_, fun h => rfl⟩, ?_⟩
    · first | exact hr1.setOther (by simpa using nrg) _ | exact hr1.setOther (by simp; omega) _
    · simpa [hcn, Addr.add_mid] using k2
    · exact (hu1.mono (by simp)).setCell _ (by simp)

/-- the Reader rd, with its buffer bf (whose row begins in ao), has the bytes bs of block d before it -/
structure Rdr (w : World) (rd bf d : Nat) (ao : Option Addr) (bs : List Value) : Prop where
  blk : ∃ o c, w.heap[rd]? = some (.cells #[.slice (some ⟨d, o, none⟩) bs.length c, .pointer (some ⟨bf, 0, none⟩)] 216 (0, 0)) ∧ bs.length ≤ c ∧ w.rangeAt d o bs
  bytes : AllBytes bs
  dlt : d < w.heap.size
  buf : ∃ n c xs, Hold w bf 46 5 1 ao n c xs
  n1 : rd ≠ bf
  n2 : d ≠ rd
  n3 : d ≠ bf
  n4 : rd ∉ bk ao
  n5 : d ∉ bk ao
theorem Rdr.ltr {w : World} {rd bf d : Nat} {ao : Option Addr} {bs : List Value} (h : Rdr w rd bf d ao bs) : rd < w.heap.size := by obtain ⟨o, c, h1, _⟩ := h.blk; exact lt_of_block h1
theorem Rdr.ltb {w : World} {rd bf d : Nat} {ao : Option Addr} {bs : List Value} (h : Rdr w rd bf d ao bs) : bf < w.heap.size := by obtain ⟨o, c, _, h1⟩ := h.buf; exact h1.lt
/-- what the reading may change -/
abbrev rdF (rd bf : Nat) (ao : Option Addr) : List Nat := rd :: bf :: bk ao
theorem Rdr.kept {w w' : World} {rd bf d : Nat} {ao : Option Addr} {bs : List Value} {F : List Nat} (h : Rdr w rd bf d ao bs) (hu : Upd F w w') (h1 : ∀ x, x ∈ F → x ≠ rd ∧ x ≠ bf ∧ x ≠ d ∧ x ∉ bk ao) : Rdr w' rd bf d ao bs := by
  obtain ⟨o, c, hb, hc, hr⟩ := h.blk
  obtain ⟨n, c', xs, hH⟩ := h.buf
  exact ⟨⟨o, c, hu.at hb (fun hx => (h1 _ hx).1 rfl), hc, hu.range hr h.dlt (fun hx => (h1 _ hx).2.2.1 rfl)⟩, h.bytes, Nat.lt_of_lt_of_le h.dlt hu.size, ⟨n, c', xs, hH.kept hu (fun hx => (h1 _ hx).2.1 rfl) (fun x hx hx' => (h1 _ hx').2.2.2 hx)⟩, h.n1, h.n2, h.n3, h.n4, h.n5⟩
/-- some of them are read -/
def Reads (w w' : World) (rd bf d : Nat) (ao : Option Addr) (rest : List Value) : Prop := ∃ ao', Rdr w' rd bf d ao' rest ∧ Upd (rdF rd bf ao) w w' ∧ In (bk ao) w.heap.size ao'
theorem Reads.trans {w w1 w2 : World} {rd bf d : Nat} {ao ao1 : Option Addr} {rest : List Value} (hu : Upd (rdF rd bf ao) w w1) (hi : In (bk ao) w.heap.size ao1) (h : Reads w1 w2 rd bf d ao1 rest) : Reads w w2 rd bf d ao rest := by
  obtain ⟨ao2, h1, h2, h3⟩ := h
  refine ⟨ao2, h1, hu.trans h2 (fun y hy => ?_), hi.step h3 hu.size⟩
  simp only [rdF, List.mem_cons] at hy ⊢
  rcases hy with h | h | h
  · exact .inl (.inl h)
  · exact .inl (.inr (.inl h))
  · rcases hi y h with h | h
    · exact .inl (.inr (.inr h))
    · exact .inr h
set_option maxRecDepth 100000 in
set_option maxHeartbeats 1000000 in
theorem readFullB (rd bf d n : Nat) (ao : Option Addr) (bs : List Value) (w : World) (h : Rdr w rd bf d ao bs) (h0 : 0 < n) (hn : n ≤ 1000) (hL : n ≤ bs.length) :
    Calls Tryz.prog 112 #[.pointer (some ⟨rd, 0, none⟩), .int .i64 n] w fun e w' => e = .returned .nilIface ∧ ∃ g c, Rdr w' rd bf d (some ⟨g, 0, none⟩) (bs.drop n) ∧ Hold w' bf 46 5 1 (some ⟨g, 0, none⟩) n c (bs.take n) ∧ Upd (rdF rd bf ao) w w' ∧ In (bk ao) w.heap.size (some ⟨g, 0, none⟩) := by
  obtain ⟨o, c, hblk, hLc, hr⟩ := h.blk
  obtain ⟨nb, cb, xs, hH⟩ := h.buf
  have hby := h.bytes
  have r0 : w.cell? ⟨rd, 0, none⟩ = some (.slice (some ⟨d, o, none⟩) bs.length c) := by simp [World.cell?, hblk]
  have r1 : w.cell? ⟨rd, 1, none⟩ = some (.pointer (some ⟨bf, 0, none⟩)) := by simp [World.cell?, hblk]
  have lr := lt_of_block hblk
  have ld := h.dlt
  have lb := hH.lt
  obtain ⟨n1, n2, n3, n4, n5⟩ := And.intro h.n1 (And.intro h.n2 (And.intro h.n3 (And.intro h.n4 h.n5)))
  obtain ⟨L, hLL⟩ : ∃ L, L = bs.length := ⟨_, rfl⟩
  rw [← hLL] at r0 hblk hLc hL
  have HL := Lib.hid hLL
  clear hLL
  have hnI : ¬ (L : Int) < n := by omega
  go_enter Tryz.func112, Tryz.ntmps112
  go_wp2_with (first
    | (go_at_call 116; (refine (EnsureB bf n _ _ _ _ _ hH h0 hn).mono ?_; rintro e w1 ⟨rfl, g, c1, ys, hH1, hu1, hi1⟩; have hb1 := hu1.at hblk (by simpa using n1); have hr1 := hu1.range hr ld (by simpa using n3); have q0 : w1.cell? ⟨rd, 0, none⟩ = some (.slice (some ⟨d, o, none⟩) L c) := (by simp [World.cell?, hb1]); have q1 : w1.cell? ⟨rd, 1, none⟩ = some (.pointer (some ⟨bf, 0, none⟩)) := (by simp [World.cell?, hb1]); have q2 := hH1.cell; have nrg : rd ≠ g := (by intro e; subst e; rcases hi1 rd (by simp) with h | h; exact n4 h; omega)))
    | (go_at_call 117; (refine (ReadFullB rd bf d o L c g c1 n bs ys _ hb1 hr1 HL.out.symm hLc hH1.own hL nrg hby).mono ?_); rintro e w2 ⟨rfl, hR2, ⟨o2, hk2, ho2⟩, hu2⟩))
  go_ret
  have nbg : bf ≠ g := fun e => hH1.ne (by simp [e])
  have hne2 : bf ∉ [rd, g] := by simp [eq_comm, n1, nbg]
  have hH2 : Hold w2 bf 46 5 1 (some ⟨g, 0, none⟩) n c1 (bs.take n) := ⟨hu2.at hH1.blk hne2, hR2, hH1.ne⟩
  have ndg : d ≠ g := by
    intro e
    subst e
    rcases hi1 d (by simp) with h | h
    · exact n5 h
    · omega
  have hr2 := hu2.range hr1 (Nat.lt_of_lt_of_le ld hu1.size) (by simp [n2, ndg])
  have hdl : (bs.drop n).length = L - n := by rw [List.length_drop, HL.out]
  refine ⟨rfl, g, c1, ⟨⟨o2, c - n, by rw [hdl]; exact hk2, by rw [hdl]; omega, fun j v hj => ?_⟩, fun u hu => hby u (List.mem_of_mem_drop hu), Nat.lt_of_lt_of_le (Nat.lt_of_lt_of_le ld hu1.size) hu2.size, ⟨n, c1, _, hH2⟩, n1, n2, n3, by simpa using nrg, by simpa using ndg⟩, hH2, ?_, hi1⟩
  · have hj' : j < (bs.drop n).length := (List.getElem?_eq_some_iff.1 hj).1
    rw [ho2 (by omega), Nat.add_assoc]
    exact hr2 _ v (by rw [← hj, List.getElem?_drop])
  · refine (hu1.mono (by simp)).trans hu2 (fun y hy => ?_)
    simp only [List.mem_cons, List.not_mem_nil, or_false] at hy
    rcases hy with h | h
    · exact .inl (by simp [rdF, h])
    · subst h
      rcases hi1 y (by simp) with h | h
      · exact .inl (by simp [rdF, h])
      · exact .inr h
set_option maxRecDepth 100000 in
set_option maxHeartbeats 1000000 in
theorem rdReadByte (rd bf d : Nat) (ao : Option Addr) (x : Int) (bs : List Value) (w : World) (h : Rdr w rd bf d ao (.int .u8 x :: bs)) :
    Calls Tryz.prog 103 #[.pointer (some ⟨rd, 0, none⟩)] w fun e w' => e = .returned (.tuple #[.int .u8 x, .nilIface]) ∧ Reads w w' rd bf d ao bs := by
  go_enter Tryz.func103, Tryz.ntmps103
  go_wp2_with (go_at_call 112; (refine (readFullB rd bf d 1 ao _ _ h (by decide) (by decide) (by simp)).mono ?_); rintro e w1 ⟨rfl, g, c1, hR1, hH1, hu1, hi1⟩; obtain ⟨o1, cc1, hb1, _, _⟩ := hR1.blk; have q1 : w1.cell? ⟨rd, 1, none⟩ = some (.pointer (some ⟨bf, 0, none⟩)) := (by simp [World.cell?, hb1]); have q2 := hH1.cell; have q3 : w1.cell? ⟨g, 0, none⟩ = some (.int .u8 x) := hH1.own.cell (by simp); clear hb1)
  refine bodyPost_ret (results_tmp2 Tryz.results103 _ _ _) rfl ⟨by first | rfl | simp, _, hR1, hu1, hi1⟩
set_option maxRecDepth 100000 in
set_option maxHeartbeats 1000000 in
theorem rdUInt8 (rd bf d : Nat) (ao : Option Addr) (x : Int) (bs : List Value) (w : World) (h : Rdr w rd bf d ao (.int .u8 x :: bs)) :
    Calls Tryz.prog 104 #[.pointer (some ⟨rd, 0, none⟩)] w fun e w' => e = .returned (.tuple #[.int .u8 x, .nilIface]) ∧ Reads w w' rd bf d ao bs := by
  go_enter Tryz.func104, Tryz.ntmps104
  go_wp2_with (go_at_call 112; (refine (readFullB rd bf d 1 ao _ _ h (by decide) (by decide) (by simp)).mono ?_); rintro e w1 ⟨rfl, g, c1, hR1, hH1, hu1, hi1⟩; obtain ⟨o1, cc1, hb1, _, _⟩ := hR1.blk; have q1 : w1.cell? ⟨rd, 1, none⟩ = some (.pointer (some ⟨bf, 0, none⟩)) := (by simp [World.cell?, hb1]); have q2 := hH1.cell; have q3 : w1.cell? ⟨g, 0, none⟩ = some (.int .u8 x) := hH1.own.cell (by simp); clear hb1)
  refine bodyPost_ret (results_tmp2 Tryz.results104 _ _ _) rfl ⟨by first | rfl | simp, _, hR1, hu1, hi1⟩
set_option maxRecDepth 100000 in
set_option maxHeartbeats 1000000 in
/-- a number under 128 in a byte of its own -/
theorem rdUVarInt (rd bf d : Nat) (ao : Option Addr) (x : Int) (hx : x = 0 ∨ x = 1 ∨ x = 2) (bs : List Value) (w : World) (h : Rdr w rd bf d ao (.int .u8 x :: bs)) :
    Calls Tryz.prog 68 #[.pointer (some ⟨rd, 0, none⟩)] w fun e w' => e = .returned (.tuple #[.int .u64 x, .nilIface]) ∧ Reads w w' rd bf d ao bs := by
  have hor : ∀ x : Int, x = 0 ∨ x = 1 ∨ x = 2 → bits .or .u64 0 x = x := fun x hx => by rcases hx with rfl | rfl | rfl <;> rfl
  rcases hx with rfl | rfl | rfl <;> (go_enter Tryz.func68, Tryz.ntmps68) <;> go_wp2 <;>
    (go_loopw [4, 5, 6] (fun a s i wr => a = .int .u64 0 ∧ s = .int .u64 0 ∧ i = .int .i64 0 ∧ wr = w) (fun _ _ _ _ => 0)) <;>
    first
    | exact ⟨rfl, rfl, rfl, rfl⟩
    | (obtain ⟨rfl, rfl, rfl, hw⟩ := hrel
       go_wp2_with (go_at_call 103; (refine (rdReadByte rd bf d ao _ bs _ h).mono ?_); rintro e w1 ⟨rfl, hR1⟩)
       refine bodyPost_ret (results_tmp2 Tryz.results68 _ _ _) rfl ⟨by first | rfl | simp, hR1⟩)
set_option maxRecDepth 100000 in
set_option maxHeartbeats 1000000 in
theorem rdInt (rd bf d : Nat) (ao : Option Addr) (bs : List Value) (w : World) (h : Rdr w rd bf d ao (.int .u8 0 :: bs)) :
    Calls Tryz.prog 71 #[.pointer (some ⟨rd, 0, none⟩)] w fun e w' => e = .returned (.tuple #[.int .i64 0, .nilIface]) ∧ Reads w w' rd bf d ao bs := by
  go_enter Tryz.func71, Tryz.ntmps71
  go_wp2_with (go_at_call 68; (refine (rdUVarInt rd bf d ao 0 (.inl rfl) bs _ h).mono ?_); rintro e w1 ⟨rfl, hR1⟩)
  refine bodyPost_ret (results_tmp2 Tryz.results71 _ _ _) rfl ⟨by first | rfl | simp, hR1⟩
set_option maxRecDepth 100000 in
set_option maxHeartbeats 1000000 in
theorem rdBool (rd bf d : Nat) (ao : Option Addr) (b : Bool) (bs : List Value) (w : World) (h : Rdr w rd bf d ao (bitV b :: bs)) :
    Calls Tryz.prog 69 #[.pointer (some ⟨rd, 0, none⟩)] w fun e w' => e = .returned (.tuple #[.bool b, .nilIface]) ∧ Reads w w' rd bf d ao bs := by
  cases b <;> (go_enter Tryz.func69, Tryz.ntmps69) <;>
    (go_wp2_with (go_at_call 104; (refine (rdUInt8 rd bf d ao _ bs _ h).mono ?_); rintro e w1 ⟨rfl, hR1⟩)) <;>
    (refine bodyPost_ret (results_tmp2 Tryz.results69 _ _ _) rfl ⟨by first | rfl | simp, hR1⟩)
set_option maxRecDepth 100000 in
set_option maxHeartbeats 1000000 in
theorem Uint32v (g c : Nat) (x0 x1 x2 x3 : Int) (w : World) (h : w.rangeAt g 0 [.int .u8 x0, .int .u8 x1, .int .u8 x2, .int .u8 x3]) (hlt : g < w.heap.size) (h0 : 0 ≤ x0 ∧ x0 < 256) (h1 : 0 ≤ x1 ∧ x1 < 256) (h2 : 0 ≤ x2 ∧ x2 < 256) (h3 : 0 ≤ x3 ∧ x3 < 256) :
    Calls Tryz.prog 113 #[.agg #[], .slice (some ⟨g, 0, none⟩) 4 c] w fun e w' => e = .returned (.int .u32 (x0 + x1 * 256 + x2 * 65536 + x3 * 16777216)) ∧ Upd [] w w' := by
  have k0 : w.cell? ⟨g, 0, none⟩ = some (.int .u8 x0) := h 0 _ rfl
  have k1 : w.cell? ⟨g, 1, none⟩ = some (.int .u8 x1) := h 1 _ rfl
  have k2 : w.cell? ⟨g, 2, none⟩ = some (.int .u8 x2) := h 2 _ rfl
  have k3 : w.cell? ⟨g, 3, none⟩ = some (.int .u8 x3) := h 3 _ rfl
  go_enter Tryz.func113, Tryz.ntmps113
  go_wp2
  have u1 := (Upd.refl [] w).alloc (Obj.cells #[] 354)
  have q0 := u1.cell1 k0 (by simp)
  have q1 := u1.cell1 k1 (by simp)
  have q2 := u1.cell1 k2 (by simp)
  have q3 := u1.cell1 k3 (by simp)
  generalize w.alloc (Obj.cells #[] 354) = W at *
  refine wp_region_split (S := Upd [] W) [(true, 0), (true, 1), (true, 2), (true, 3), (true, 4), (true, 5), (true, 6), (true, 7), (true, 8), (true, 9), (true, 10), (true, 11), (true, 12), (true, 13), (true, 14), (true, 15), (true, 16), (true, 17), (true, 18), (true, 19), (true, 20), (true, 21)] [] [22] (by kernel_rfl) (by kernel_rfl) (fun _ _ d _ _ h => by cases d <;> exact h) ((Upd.refl _ _).drew) ?_
  simp only [readsAt, opersAt, Option.map_some, List.filterMap_cons, List.filterMap_nil, List.getElem?_toArray, List.getElem?_cons_succ, List.getElem?_cons_zero]
  iterate 22 (refine ⟨_, Or.inl ⟨by rfl, fun w' hS => by first | (have e0 := Upd.cell1 hS q0 (by simp); have e1 := Upd.cell1 hS q1 (by simp); have e2 := Upd.cell1 hS q2 (by simp); have e3 := Upd.cell1 hS q3 (by simp); first | (go_simp; done) | (go_simp; with_reducible rfl)) | (go_simp; done) | (go_simp; with_reducible rfl)⟩, ?_⟩; simp only [Act.put, List.setIfInBounds_toArray, List.set_cons_zero, List.set_cons_succ])
  simp only [readsThen, preThen]
  change wpList _ _ _ [_] _ _
  go_wp2
  go_ret
  refine ⟨?_, u1.drew⟩
  have e0 : IntKind.u32.wrap x0 = x0 := by rw [IntKind.wrap_u32]; omega
  have e1 : IntKind.u32.wrap (IntKind.u32.wrap x1 * 256) = x1 * 256 := by rw [IntKind.wrap_u32, IntKind.wrap_u32]; omega
  have e2 : IntKind.u32.wrap (IntKind.u32.wrap x2 * 65536) = x2 * 65536 := by rw [IntKind.wrap_u32, IntKind.wrap_u32]; omega
  have e3 : IntKind.u32.wrap (IntKind.u32.wrap x3 * 16777216) = x3 * 16777216 := by rw [IntKind.wrap_u32, IntKind.wrap_u32]; omega
  show Ending.returned (Value.int IntKind.u32 (bits BinOp.or IntKind.u32 (bits BinOp.or IntKind.u32 (bits BinOp.or IntKind.u32 (IntKind.u32.wrap x0) (IntKind.u32.wrap (IntKind.u32.wrap x1 * 256))) (IntKind.u32.wrap (IntKind.u32.wrap x2 * 65536))) (IntKind.u32.wrap (IntKind.u32.wrap x3 * 16777216)))) = _
  rw [e0, e1, e2, e3]
  simp (disch := omega) only [u32_or8, u32_or16, u32_or24]
set_option maxRecDepth 100000 in
set_option maxHeartbeats 1000000 in
theorem rdUInt32 (rd bf d : Nat) (ao : Option Addr) (b : Int) (bs : List Value) (w : World) (h : Rdr w rd bf d ao (leV 4 b ++ bs)) :
    Calls Tryz.prog 105 #[.pointer (some ⟨rd, 0, none⟩)] w fun e w' => e = .returned (.tuple #[.int .u32 (b % 4294967296), .nilIface]) ∧ Reads w w' rd bf d ao bs := by
  have hl4 : leV 4 b = [.int .u8 (byteAt b 0), .int .u8 (byteAt b 1), .int .u8 (byteAt b 2), .int .u8 (byteAt b 3)] := by simp [leV, List.range_succ]
  have ht4 : (leV 4 b ++ bs).take 4 = leV 4 b := by rw [List.take_append_of_le_length (by rw [leV_len]; decide), List.take_of_length_le (by rw [leV_len]; decide)]
  have hd4 : (leV 4 b ++ bs).drop 4 = bs := by rw [List.drop_append_of_le_length (by rw [leV_len]; decide), List.drop_of_length_le (by rw [leV_len]; decide), List.nil_append]
  go_enter Tryz.func105, Tryz.ntmps105
  go_wp2_with (go_at_call 112; (refine (readFullB rd bf d 4 ao _ _ h (by decide) (by decide) (by simp [leV_len])).mono ?_); rintro e w1 ⟨rfl, g, c1, hR1, hH1, hu1, hi1⟩)
  rw [hd4] at hR1
  rw [ht4] at hH1
  obtain ⟨o1, cc1, hb1, _, _⟩ := hR1.blk
  have q1 : w1.cell? ⟨rd, 1, none⟩ = some (.pointer (some ⟨bf, 0, none⟩)) := (by simp [World.cell?, hb1])
  have q2 := hH1.cell
  clear hb1 ht4 hd4
  refine wp_region_split (S := Upd [] w1) [(true, 0), (true, 1), (true, 2), (true, 3), (true, 4), (true, 5), (true, 6), (true, 7)] [] [8, 9, 10] (by kernel_rfl) (by kernel_rfl) (fun _ _ d _ _ h => by cases d <;> exact h) ((Upd.refl _ _).drew) ?_
  simp only [readsAt, opersAt, Option.map_some, List.filterMap_cons, List.filterMap_nil, List.getElem?_toArray, List.getElem?_cons_succ, List.getElem?_cons_zero]
  iterate 8 (refine ⟨_, Or.inl ⟨by rfl, fun w' hS => by first | (have e1 := Upd.cell1 hS q1 (by simp); have e2 := Upd.cell1 hS q2 (by simp); first | (go_simp; done) | (go_simp; with_reducible rfl)) | (go_simp; done) | (go_simp; with_reducible rfl)⟩, ?_⟩; simp only [Act.put, List.setIfInBounds_toArray, List.set_cons_zero, List.set_cons_succ])
  simp only [readsThen, preThen]
  change wpList _ _ _ [_, _, _] _ _
  have hd := (Upd.refl [] w1).drew
  have hg1 : g < w1.heap.size := hH1.own.lt g (by simp)
  have hr1 := hH1.own.view 0 (leV 4 b) (fun j v hj => by rw [Nat.zero_add]; exact hj)
  rw [hl4] at hr1
  go_wp2_with (go_at_call 113; (refine (Uint32v g c1 _ _ _ _ _ (hd.range hr1 hg1 (by simp)) hg1 (byteAt_range _ _) (byteAt_range _ _) (byteAt_range _ _) (byteAt_range _ _)).mono ?_); rintro e w2 ⟨rfl, hu2⟩)
  have hb : byteAt b 0 + byteAt b 1 * 256 + byteAt b 2 * 65536 + byteAt b 3 * 16777216 = b % 4294967296 := by
    simp only [byteAt]
    omega
  refine bodyPost_ret (results_tmp2 Tryz.results105 _ _ _) rfl ⟨by rw [← hb]; first | rfl | simp, ?_⟩
  exact Reads.trans hu1 hi1 ⟨_, hR1.kept hu2.ofDrew (by simp), (hu2.ofDrew).mono (by simp), In.self (fun _ h => h)⟩
set_option maxRecDepth 100000 in
set_option maxHeartbeats 1000000 in
theorem rdInt32 (rd bf d : Nat) (ao : Option Addr) (b : Int) (hb : -2147483648 ≤ b ∧ b < 2147483648) (bs : List Value) (w : World) (h : Rdr w rd bf d ao (leV 4 b ++ bs)) :
    Calls Tryz.prog 70 #[.pointer (some ⟨rd, 0, none⟩)] w fun e w' => e = .returned (.tuple #[.int .i32 b, .nilIface]) ∧ Reads w w' rd bf d ao bs := by
  have hw : IntKind.i32.wrap (b % 4294967296) = b := by simp only [IntKind.wrap_i32]; omega
  go_enter Tryz.func70, Tryz.ntmps70
  go_wp2_with (go_at_call 105; (refine (rdUInt32 rd bf d ao b bs _ h).mono ?_); rintro e w1 ⟨rfl, hR1⟩)
  refine bodyPost_ret (results_tmp2 Tryz.results70 _ _ _) rfl ⟨by first | rfl | simp, hR1⟩
end Go.Proofs.YtfbohkbpgfnceaaGreatDoor
/- A block without columns is decoded. -/
namespace Go.Proofs.YtfbohkbpgfnceaaGreatDoor
set_option linter.unusedVariables false
set_option linter.unusedSimpArgs false
open Go Go.RowKit
/-- how many bytes a Reader has before it -/
def rdLen (w : World) (rd : Nat) : Nat := match w.cell? ⟨rd, 0, none⟩ with
  | some (.slice _ n _) => n
  | _ => 0
theorem Rdr.len {w : World} {rd bf d : Nat} {ao : Option Addr} {bs : List Value} (h : Rdr w rd bf d ao bs) : rdLen w rd = bs.length := by
  obtain ⟨o, c, h1, _⟩ := h.blk
  have : w.cell? ⟨rd, 0, none⟩ = some (.slice (some ⟨d, o, none⟩) bs.length c) := by simp [World.cell?, h1]
  simp only [rdLen, this]
/-- a block's head in its variable -/
def blkC (ov : Bool) (b c r : Int) : Obj := .cells #[.bool ov, .int .i64 b, .int .i64 c, .int .i64 r] 52 (0, 0)
/-- the block k is none of the Reader's -/
def Off (k rd bf d : Nat) (ao : Option Addr) : Prop := k ≠ rd ∧ k ≠ bf ∧ k ≠ d ∧ k ∉ bk ao
theorem Off.not {k rd bf d : Nat} {ao : Option Addr} (h : Off k rd bf d ao) : k ∉ rdF rd bf ao := by
  obtain ⟨h1, h2, _, h4⟩ := h
  simp [rdF, h1, h2, h4]
theorem Off.step {k rd bf d : Nat} {ao ao' : Option Addr} {B : Nat} (h : Off k rd bf d ao) (hi : In (bk ao) B ao') (hk : k < B) : Off k rd bf d ao' := ⟨h.1, h.2.1, h.2.2.1, fun hx => (hi k hx).elim h.2.2.2 (fun e => by omega)⟩
theorem Rdr.keptK {w w' : World} {rd bf d k : Nat} {ao : Option Addr} {bs : List Value} (h : Rdr w rd bf d ao bs) (hu : Upd [k] w w') (ho : Off k rd bf d ao) : Rdr w' rd bf d ao bs :=
  h.kept hu (fun x hx => by simp at hx; subst hx; exact ho)
/-- some of the bytes are read, and the block k is written -/
def ReadsK (w w' : World) (k rd bf d : Nat) (ao : Option Addr) (rest : List Value) : Prop := ∃ ao', Rdr w' rd bf d ao' rest ∧ Upd (k :: rdF rd bf ao) w w' ∧ In (bk ao) w.heap.size ao'
theorem ReadsK.of {w w' : World} {k rd bf d : Nat} {ao : Option Addr} {rest : List Value} (h : Reads w w' rd bf d ao rest) : ReadsK w w' k rd bf d ao rest := by
  obtain ⟨ao', h1, h2, h3⟩ := h
  exact ⟨ao', h1, h2.mono (fun x hx => .inl (List.mem_cons_of_mem _ hx)), h3⟩
theorem ReadsK.trans {w w1 w2 : World} {k rd bf d : Nat} {ao ao1 : Option Addr} {rest : List Value} (hu : Upd (k :: rdF rd bf ao) w w1) (hi : In (bk ao) w.heap.size ao1) (h : ReadsK w1 w2 k rd bf d ao1 rest) : ReadsK w w2 k rd bf d ao rest := by
  obtain ⟨ao2, h1, h2, h3⟩ := h
  refine ⟨ao2, h1, hu.trans h2 (fun y hy => ?_), hi.step h3 hu.size⟩
  simp only [rdF, List.mem_cons] at hy ⊢
  rcases hy with h | h | h | h
  · exact .inl (.inl h)
  · exact .inl (.inr (.inl h))
  · exact .inl (.inr (.inr (.inl h)))
  · rcases hi y h with h | h
    · exact .inl (.inr (.inr (.inr h)))
    · exact .inr h
/-- the block k is written behind that -/
theorem ReadsK.put {w w1 w2 : World} {k rd bf d : Nat} {ao : Option Addr} {rest : List Value} (h : ReadsK w w1 k rd bf d ao rest) (hk : k < w.heap.size) (ho : Off k rd bf d ao) (hu : Upd [k] w1 w2) : ReadsK w w2 k rd bf d ao rest := by
  obtain ⟨ao1, h1, h2, h3⟩ := h
  exact ⟨ao1, h1.keptK hu (ho.step h3 hk), h2.trans hu (fun y hy => .inl (by simp at hy; simp [hy])), h3⟩
theorem blk_cells {w : World} {k : Nat} {ov : Bool} {b c r : Int} (h : w.heap[k]? = some (blkC ov b c r)) : w.cell? ⟨k, 0, none⟩ = some (.bool ov) ∧ w.cell? ⟨k, 1, none⟩ = some (.int .i64 b) ∧ w.cell? ⟨k, 2, none⟩ = some (.int .i64 c) ∧ w.cell? ⟨k, 3, none⟩ = some (.int .i64 r) ∧ ∀ j, w.frozen? ⟨k, j, none⟩ = false := by
  unfold blkC at h
  refine ⟨?_, ?_, ?_, ?_, fun j => ?_⟩
  · simp [World.cell?, h]
  · simp [World.cell?, h]
  · simp [World.cell?, h]
  · simp [World.cell?, h]
  · simp [World.frozen?, h]
theorem blk_set0 {w : World} {k : Nat} {ov : Bool} {b c r : Int} (h : w.heap[k]? = some (blkC ov b c r)) (x : Bool) : (w.setCell ⟨k, 0, none⟩ (.bool x)).heap[k]? = some (blkC x b c r) := heap_setCell_same w k 0 _ _ _ h
theorem blk_set1 {w : World} {k : Nat} {ov : Bool} {b c r : Int} (h : w.heap[k]? = some (blkC ov b c r)) (x : Int) : (w.setCell ⟨k, 1, none⟩ (.int .i64 x)).heap[k]? = some (blkC ov x c r) := heap_setCell_same w k 1 _ _ _ h
theorem blk_set2 {w : World} {k : Nat} {ov : Bool} {b c r : Int} (h : w.heap[k]? = some (blkC ov b c r)) (x : Int) : (w.setCell ⟨k, 2, none⟩ (.int .i64 x)).heap[k]? = some (blkC ov b x r) := heap_setCell_same w k 2 _ _ _ h
theorem blk_set3 {w : World} {k : Nat} {ov : Bool} {b c r : Int} (h : w.heap[k]? = some (blkC ov b c r)) (x : Int) : (w.setCell ⟨k, 3, none⟩ (.int .i64 x)).heap[k]? = some (blkC ov b c x) := heap_setCell_same w k 3 _ _ _ h
set_option maxRecDepth 100000 in
set_option maxHeartbeats 1000000 in
theorem InfoDecode (kb rd bf d : Nat) (ao : Option Addr) (ov : Bool) (b c r : Int) (hb : -2147483648 ≤ b ∧ b < 2147483648) (rest : List Value) (w : World) (h : Rdr w rd bf d ao (infoV ov b ++ rest)) (hk : w.heap[kb]? = some (blkC false 0 c r)) (ho : Off kb rd bf d ao) :
    Calls Tryz.prog 33 #[.pointer (some ⟨kb, 0, none⟩), .pointer (some ⟨rd, 0, none⟩)] w fun e w' => e = .returned .nilIface ∧ w'.heap[kb]? = some (blkC ov b c r) ∧ ReadsK w w' kb rd bf d ao rest := by
  have hkl := lt_of_block hk
  have hinf : infoV ov b ++ rest = .int .u8 1 :: (bitV ov :: .int .u8 2 :: (leV 4 b ++ (.int .u8 0 :: rest))) := by simp [infoV]
  go_enter Tryz.func33, Tryz.ntmps33
  go_wp2
  go_loopw [] (fun wr => (ReadsK w wr kb rd bf d ao (infoV ov b ++ rest) ∧ wr.heap[kb]? = some (blkC false 0 c r)) ∨ (ReadsK w wr kb rd bf d ao (.int .u8 2 :: (leV 4 b ++ (.int .u8 0 :: rest))) ∧ wr.heap[kb]? = some (blkC ov 0 c r)) ∨ (ReadsK w wr kb rd bf d ao (.int .u8 0 :: rest) ∧ wr.heap[kb]? = some (blkC ov b c r)))
    (fun wr => rdLen wr rd)
  case atStart => exact .inl ⟨⟨ao, h, Upd.refl _ _, In.self (fun _ h => h)⟩, hk⟩
  case round =>
    rcases hrel with ⟨⟨ao1, hR, hU, hI⟩, hB⟩ | ⟨⟨ao1, hR, hU, hI⟩, hB⟩ | ⟨⟨ao1, hR, hU, hI⟩, hB⟩
    · have hO := ho.step hI hkl
      have hlen := hR.len
      rw [hinf] at hR
      go_wp2_with (first
        | (go_at_call 68; (refine (rdUVarInt rd bf d ao1 1 (.inr (.inl rfl)) _ _ hR).mono ?_); rintro e w1 ⟨rfl, ao2, hR2, hU2, hI2⟩; have hB2 := hU2.at hB hO.not; have hO2 := hO.step hI2 (Nat.lt_of_lt_of_le hkl hU.size))
        | (go_at_call 69; (refine (rdBool rd bf d ao2 ov _ _ hR2).mono ?_); rintro e w2 ⟨rfl, ao3, hR3, hU3, hI3⟩; have hB3 := hU3.at hB2 hO2.not; obtain ⟨q0, q1, q2, q3, qf⟩ := blk_cells hB3; have f0 := qf 0))
      have hO3 := hO2.step hI3 (Nat.lt_of_lt_of_le (Nat.lt_of_lt_of_le hkl hU.size) hU2.size)
      have hK1 := ReadsK.trans hU hI (ReadsK.of ⟨ao2, hR2, hU2, hI2⟩)
      obtain ⟨ao2', hR2', hU2', hI2'⟩ := hK1
      have hU23 : Upd (kb :: rdF rd bf ao) w w2 := (ReadsK.trans hU hI (ReadsK.of (Reads.trans hU2 hI2 ⟨ao3, hR3, hU3, hI3⟩))).choose_spec.2.1
      have hI23 : In (bk ao) w.heap.size ao3 := (hI.step hI2 hU.size).step hI3 (Nat.le_trans hU.size hU2.size)
      have hK3 : ReadsK w w2 kb rd bf d ao (.int .u8 2 :: (leV 4 b ++ (.int .u8 0 :: rest))) := ⟨ao3, hR3, hU23, hI23⟩
      have hK4 := hK3.put hkl ho ((Upd.refl [kb] w2).setCell (p := ⟨kb, 0, none⟩) (Value.bool ov) (by simp))
      have hB4 := blk_set0 hB3 ov
      have hlen4 : rdLen (w2.setCell ⟨kb, 0, none⟩ (Value.bool ov)) rd = (Value.int .u8 2 :: (leV 4 b ++ (.int .u8 0 :: rest))).length := by obtain ⟨ao4, hR4, _⟩ := hK4; exact hR4.len
      clear hR2' hU2' hI2' hU23 hI23 hK3
      go_roundw
      case rel => exact .inr (.inl ⟨hK4, hB4⟩)
      case measure => rw [hlen4, hlen, hinf]; simp
    · have hO := ho.step hI hkl
      have hlen := hR.len
      go_wp2_with (first
        | (go_at_call 68; (refine (rdUVarInt rd bf d ao1 2 (.inr (.inr rfl)) _ _ hR).mono ?_); rintro e w1 ⟨rfl, ao2, hR2, hU2, hI2⟩; have hB2 := hU2.at hB hO.not; have hO2 := hO.step hI2 (Nat.lt_of_lt_of_le hkl hU.size))
        | (go_at_call 70; (refine (rdInt32 rd bf d ao2 b hb _ _ hR2).mono ?_); rintro e w2 ⟨rfl, ao3, hR3, hU3, hI3⟩; have hB3 := hU3.at hB2 hO2.not; obtain ⟨q0, q1, q2, q3, qf⟩ := blk_cells hB3; have f0 := qf 1))
      have hU23 : Upd (kb :: rdF rd bf ao) w w2 := (ReadsK.trans hU hI (ReadsK.of (Reads.trans hU2 hI2 ⟨ao3, hR3, hU3, hI3⟩))).choose_spec.2.1
      have hI23 : In (bk ao) w.heap.size ao3 := (hI.step hI2 hU.size).step hI3 (Nat.le_trans hU.size hU2.size)
      have hK3 : ReadsK w w2 kb rd bf d ao (.int .u8 0 :: rest) := ⟨ao3, hR3, hU23, hI23⟩
      have hK4 := hK3.put hkl ho ((Upd.refl [kb] w2).setCell (p := ⟨kb, 1, none⟩) (Value.int .i64 b) (by simp))
      have hB4 := blk_set1 hB3 b
      have hlen4 : rdLen (w2.setCell ⟨kb, 1, none⟩ (Value.int .i64 b)) rd = (Value.int .u8 0 :: rest).length := by obtain ⟨ao4, hR4, _⟩ := hK4; exact hR4.len
      clear hU23 hI23 hK3
      go_roundw
      case rel => exact .inr (.inr ⟨hK4, hB4⟩)
      case measure => rw [hlen4, hlen]; simp [leV_len]; omega
    · have hO := ho.step hI hkl
      go_wp2_with (go_at_call 68; (refine (rdUVarInt rd bf d ao1 0 (.inl rfl) _ _ hR).mono ?_); rintro e w1 ⟨rfl, ao2, hR2, hU2, hI2⟩; have hB2 := hU2.at hB hO.not)
      go_ret
      exact ⟨rfl, hB2, ReadsK.trans hU hI (ReadsK.of ⟨ao2, hR2, hU2, hI2⟩)⟩
set_option maxRecDepth 100000 in
set_option maxHeartbeats 400000 in
theorem blockEnd (kb : Nat) (ov : Bool) (b c r : Int) (w : World) (hk : w.heap[kb]? = some (blkC ov b c r)) : Calls Tryz.prog 73 #[.pointer (some ⟨kb, 0, none⟩)] w fun e w' => e = .returned (.bool (decide (c = 0) && decide (r = 0))) ∧ w' = w := by
  obtain ⟨q0, q1, q2, q3, qf⟩ := blk_cells hk
  clear q0 q1 qf hk
  by_cases hc : c = 0
  · by_cases hr : r = 0
    · go_enter Tryz.func73, Tryz.ntmps73
      go_wp2
      go_ret
      exact ⟨by simp [hc, hr], rfl⟩
    · go_enter Tryz.func73, Tryz.ntmps73
      go_wp2
      go_ret
      exact ⟨by simp [hc, hr], rfl⟩
  · go_enter Tryz.func73, Tryz.ntmps73
    go_wp2
    go_ret
    exact ⟨by simp [hc], rfl⟩
end Go.Proofs.YtfbohkbpgfnceaaGreatDoor
