/- Bytes of numbers, as lists of cells; rows that are written to; the copies of rows. -/
import Derived.Test.YtjhhjldonekmpaaGreatDoorBase
namespace Go.Proofs.YtjhhjldonekmpaaGreatDoor
open Go Go.RowKit

/-! ### bytes of numbers -/
def U64 (x : Int) : Prop := 0 ≤ x ∧ x < 18446744073709551616
/-- byte i of a number -/
def byteAt (x : Int) (i : Nat) : Int := (x / (2:Int) ^ (8 * i)) % 256
theorem byteAt_range (x : Int) (i : Nat) : 0 ≤ byteAt x i ∧ byteAt x i < 256 := by unfold byteAt; omega
def byteV (x : Int) : Value := .int .u8 x
def low16 (u v : Int) (i : Nat) : Int := if 8 ≤ i then byteAt v (i % 8) else byteAt u (i % 8)
def lowV (u v : Int) (n : Nat) : List Value := (List.range n).map (fun i => Value.int .u8 (low16 u v i))
theorem lowV_len (u v : Int) (n : Nat) : (lowV u v n).length = n := by simp [lowV]
theorem lowV_succ (u v : Int) (k : Nat) : lowV u v (k + 1) = lowV u v k ++ [Value.int .u8 (low16 u v k)] := by simp [lowV, List.range_succ]
theorem low16_hi {u v : Int} {k : Nat} (h : 8 ≤ (k : Int)) : low16 u v k = v / 2 ^ (8 * (k % 8)) % 256 := by simp [low16, byteAt, show 8 ≤ k by omega]
theorem low16_lo {u v : Int} {k : Nat} (h : (k : Int) < 8) : low16 u v k = u / 2 ^ (8 * (k % 8)) % 256 := by simp [low16, byteAt, show ¬ 8 ≤ k by omega]
theorem low16_range (u v : Int) (i : Nat) : 0 ≤ low16 u v i ∧ low16 u v i < 256 := by unfold low16; split <;> exact byteAt_range _ _
/-- the lowest n bytes, the lowest one first -/
def leV (n : Nat) (x : Int) : List Value := (List.range n).map (fun i => Value.int .u8 (byteAt x i))
theorem leV_len (n : Nat) (x : Int) : (leV n x).length = n := by simp [leV]
theorem lowV8 (u v : Int) : lowV u v 8 = leV 8 u := by
  unfold lowV leV
  apply List.map_congr_left
  intro i hi
  simp at hi
  simp [low16, show ¬ 8 ≤ i by omega, Nat.mod_eq_of_lt hi]
/-- every cell of a list is a byte -/
def AllBytes (xs : List Value) : Prop := ∀ u ∈ xs, ∃ x : Int, u = .int .u8 x ∧ 0 ≤ x ∧ x < 256
theorem AllBytes.nil : AllBytes [] := by intro u h; cases h
theorem AllBytes.append {xs ys : List Value} (h : AllBytes xs) (k : AllBytes ys) : AllBytes (xs ++ ys) := fun u hu => (List.mem_append.1 hu).elim (h u) (k u)
theorem lowV_bytes (u v : Int) (n : Nat) : AllBytes (lowV u v n) := by
  intro x hx
  obtain ⟨i, _, rfl⟩ := List.mem_map.1 hx
  exact ⟨_, rfl, low16_range _ _ _⟩
theorem leV_bytes (n : Nat) (x : Int) : AllBytes (leV n x) := by
  intro u hu
  obtain ⟨i, _, rfl⟩ := List.mem_map.1 hu
  exact ⟨_, rfl, byteAt_range _ _⟩
theorem AllBytes.one {xs : List Value} (h : AllBytes xs) : ∀ u ∈ xs, u.oneCell' = true := by
  intro u hu
  obtain ⟨x, rfl, _⟩ := h u hu
  rfl
theorem AllBytes.flat {α : Type} {f : α → List Value} (h : ∀ a, AllBytes (f a)) (l : List α) : AllBytes (l.flatMap f) := by
  intro u hu
  obtain ⟨a, _, ha⟩ := List.mem_flatMap.1 hu
  exact h a u ha

/-! ### writing into a list -/
/-- bs written over xs from o on -/
def putAt (xs : List Value) (o : Nat) (bs : List Value) : List Value := xs.take o ++ bs ++ xs.drop (o + bs.length)
theorem putAt_nil (xs : List Value) (o : Nat) : putAt xs o [] = xs := by simp [putAt]
theorem putAt_len {xs : List Value} {o : Nat} {bs : List Value} (h : o + bs.length ≤ xs.length) : (putAt xs o bs).length = xs.length := by
  simp only [putAt, List.length_append, List.length_take, List.length_drop]; omega
theorem putAt_snoc {xs : List Value} {o : Nat} {bs : List Value} {b : Value} (h : o + bs.length < xs.length) : (putAt xs o bs).set (o + bs.length) b = putAt xs o (bs ++ [b]) := by
  have hl : (xs.take o ++ bs).length = o + bs.length := by simp only [List.length_append, List.length_take]; omega
  unfold putAt
  rw [List.set_append_right _ _ (by omega), hl, Nat.sub_self, List.drop_eq_getElem_cons (by omega)]
  simp only [List.set_cons_zero, List.append_assoc, List.cons_append, List.nil_append, List.length_append, List.length_cons, List.length_nil, Nat.zero_add, Nat.add_assoc]
/-- behind what stands already -/
theorem putAt_behind {xs ys : List Value} {bs : List Value} {o : Nat} (ho : o = xs.length) : putAt (xs ++ ys) o bs = xs ++ bs ++ ys.drop bs.length := by
  subst ho
  unfold putAt
  rw [List.take_left, List.drop_length_add_append]

theorem sets_putAt : ∀ (bs : List Value) (xs : List Value) (o k : Nat), o + k + bs.length ≤ xs.length → (bs.zipIdx k).foldl (fun c p => c.set (o + p.2) p.1) xs = putAt xs (o + k) bs := by
  intro bs
  induction bs with
  | nil => intro xs o k _; simp [putAt_nil]
  | cons b bs ih =>
    intro xs o k h
    simp only [List.length_cons] at h
    simp only [List.zipIdx_cons, List.foldl_cons]
    rw [ih _ _ _ (by simp; omega)]
    unfold putAt
    have h1 : (xs.set (o + k) b).take (o + (k + 1)) = xs.take (o + k) ++ [b] := by
      rw [← Nat.add_assoc, List.take_succ_eq_append_getElem (by simp; omega), List.take_set_of_le (by omega), List.getElem_set_self]
    rw [h1, List.drop_set_of_lt (by omega)]
    simp only [List.append_assoc, List.cons_append, List.nil_append, List.length_cons]
    congr 4
    omega

theorem Row.stored1 {w : World} {e : TypeId} {g n c : Nat} {xs : List Value} (h : Row w e 1 (some ⟨g, 0, none⟩) n c xs) (j : Nat) (u : Value) : Row (w.setCell ⟨g, j, none⟩ u) e 1 (some ⟨g, 0, none⟩) n c (xs.set j u) := (World.ownsRow.stored h j u).1
theorem Row.cap {w : World} {e : TypeId} {size : Nat} {ao : Option Addr} {n c : Nat} {xs : List Value} (h : Row w e size ao n c xs) : n ≤ c ∧ c ≤ maxLen := by
  rcases h.2 with ⟨h1, h0⟩ | ⟨g, cap, cur, hv, _, _, h1, h2, _⟩
  · simp only [Value.slice.injEq] at h1
    unfold maxLen
    omega
  · simp only [Value.slice.injEq] at hv
    omega
theorem Row.free {w : World} {e : TypeId} {size g n c : Nat} {xs : List Value} (h : Row w e size (some ⟨g, 0, none⟩) n c xs) (j : Nat) : w.frozen? ⟨g, j, none⟩ = false := World.ownsRow.frozenAt h j
theorem Row.cell' {w : World} {e : TypeId} {size g n c : Nat} {xs : List Value} (h : Row w e size (some ⟨g, 0, none⟩) n c xs) (j : Nat) (hj : j < n * size) : ∃ u, xs[j]? = some u ∧ w.cell? ⟨g, j, none⟩ = some u := by
  have hl : j < xs.length := by rw [h.len]; exact hj
  exact ⟨xs[j], by simp, h.cell (by simp)⟩
theorem Row.view {w : World} {e : TypeId} {size g n c : Nat} {xs : List Value} (h : Row w e size (some ⟨g, 0, none⟩) n c xs) (o : Nat) (cs : List Value) (hc : ∀ j v, cs[j]? = some v → xs[o + j]? = some v) : w.rangeAt g o cs := fun j v hv => h.cell (hc j v hv)

/-! ### slices that are only read -/
/-- the slice (ao, n) reads xs -/
structure View (w : World) (size : Nat) (ao : Option Addr) (n : Nat) (xs : List Value) : Prop where
  len : xs.length = n * size
  at_ : 0 < n → ∃ b o, ao = some ⟨b, o, none⟩ ∧ w.rangeAt b o xs ∧ b < w.heap.size
theorem Row.toView {w : World} {e : TypeId} {size : Nat} {ao : Option Addr} {n c : Nat} {xs : List Value} (h : Row w e size ao n c xs) : View w size ao n xs := by
  refine ⟨h.len, fun hn => ?_⟩
  obtain ⟨g, rfl⟩ := h.head hn
  exact ⟨g, 0, rfl, h.view 0 xs (fun j v hv => by rw [Nat.zero_add]; exact hv), h.lt g (by simp)⟩
theorem View.upd {w w' : World} {size : Nat} {ao : Option Addr} {n : Nat} {xs : List Value} {F : List Nat} (h : View w size ao n xs) (hu : Upd F w w') (hF : ∀ x, x ∈ bk ao → x ∉ F) : View w' size ao n xs := by
  refine ⟨h.len, fun hn => ?_⟩
  obtain ⟨b, o, rfl, hr, hb⟩ := h.at_ hn
  exact ⟨b, o, rfl, hu.range hr hb (hF b (by simp)), Nat.lt_of_lt_of_le hb hu.size⟩
theorem View.nil {w : World} {size : Nat} {ao : Option Addr} : View w size ao 0 [] := ⟨by simp, fun h => by omega⟩
theorem View.lt {w : World} {size : Nat} {ao : Option Addr} {n : Nat} {xs : List Value} (h : View w size ao n xs) (hn : 0 < n) : ∀ x, x ∈ bk ao → x < w.heap.size := by
  obtain ⟨b, o, rfl, _, hb⟩ := h.at_ hn
  simpa using hb

/-! ### many numbers -/
theorem flatMap_take_succ {α β : Type} (f : α → List β) (l : List α) (k : Nat) (h : k < l.length) : (l.take (k + 1)).flatMap f = (l.take k).flatMap f ++ f l[k] := by
  rw [List.take_succ_eq_append_getElem h, List.flatMap_append]; simp
theorem flatMap_len {α β : Type} (f : α → List β) (m : Nat) (hf : ∀ a, (f a).length = m) (l : List α) : (l.flatMap f).length = l.length * m := by
  induction l with
  | nil => simp
  | cons a l ih => simp only [List.flatMap_cons, List.length_append, hf, ih, List.length_cons]; rw [Nat.succ_mul]; omega
theorem zeroCells1 (z : Value) (m : Nat) : (Builtin.zeroCells #[z] m).toList = List.replicate m z := by
  apply List.ext_getElem?
  intro j
  by_cases hj : j < m
  · simp [Builtin.zeroCells, hj, Nat.mod_one]
  · simp [Builtin.zeroCells, hj]
/-- a round of an encoding loop: the next number's bytes over zeros -/
theorem enc_step {bs es zs : List Value} {z : Value} {m r : Nat} {e1 : List Value} (hz : zs = List.replicate (m + r) z) (he : e1.length = m) {o : Nat} (ho : o = (bs ++ es).length) : putAt (bs ++ es ++ zs) o e1 = bs ++ (es ++ e1) ++ List.replicate r z := by
  subst hz
  rw [putAt_behind ho, he, List.drop_replicate]
  simp only [List.append_assoc]
  congr 4
  omega
end Go.Proofs.YtjhhjldonekmpaaGreatDoor
