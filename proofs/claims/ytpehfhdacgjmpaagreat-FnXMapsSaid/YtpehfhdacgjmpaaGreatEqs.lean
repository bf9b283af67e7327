/- Bytes that are compared: bytes.Equal, and rows by slices.Equal. -/
import Derived.Test.YtpehfhdacgjmpaaGreatArr
import Derived.Laws.BytesString
import Derived.Lib.BufferRead
namespace Go.Proofs.YtpehfhdacgjmpaaGreat
open Go Go.RowKit
/-- the letters of bytes -/
def strOf (bs : List Value) : ByteArray := (bs.map intOf).foldl (fun r n => r.push (UInt8.ofNat n.toNat)) ByteArray.empty
theorem AllBytes.ints {bs : List Value} (h : AllBytes bs) : (bs.map intOf).map (Value.int .u8) = bs := by
  rw [List.map_map]
  induction bs with
  | nil => rfl
  | cons b bs ih =>
    obtain ⟨x, rfl, _⟩ := h b (by simp)
    simp only [List.map_cons, Function.comp, intOf]
    rw [ih (fun u hu => h u (by simp [hu]))]
theorem run_text (ao : Option Addr) (n c : Nat) (bs : List Value) (w : World) (hv : View w 1 ao n bs) (hb : AllBytes bs) : (convert 29 9 (.slice ao n c)).run Tryz.prog w = .ok (.string (strOf bs)) w := by
  have hl := hv.len
  rw [run_convert_bytes_string w 29 9 5 ao n c Tryz.underlying29 Tryz.underlying5 Tryz.underlying9]
  cases ao with
  | none =>
    by_cases h0 : n = 0
    · subst h0
      obtain rfl : bs = [] := List.eq_nil_of_length_eq_zero (by simpa using hl)
      simp [Conv.bytesToString, strOf]
    · obtain ⟨b, o, h, _⟩ := hv.at_ (by omega)
      cases h
  | some a =>
    refine run_bytesToString w a n c (bs.map intOf) ?_
    rw [hb.ints]
    have := run_loadCells_list (P := Tryz.prog) w a bs (fun j v hj => by
      have hn : 0 < n := by
        have := (List.getElem?_eq_some_iff.1 hj).1
        omega
      obtain ⟨b, o, h, hr, _⟩ := hv.at_ hn
      cases h
      rw [Addr.add_mid]; exact hr j v hj)
    rw [show bs.length = n by omega] at this
    exact this

set_option maxRecDepth 100000 in
set_option maxHeartbeats 400000 in
theorem bytesEqual (a1 a2 : Option Addr) (n1 n2 c1 c2 : Nat) (bs : List Value) (w : World) (h1 : View w 1 a1 n1 bs) (h2 : View w 1 a2 n2 bs) (hb : AllBytes bs) :
    Calls Tryz.prog 10 #[.slice a1 n1 c1, .slice a2 n2 c2] w fun e w' => e = .returned (.bool true) ∧ w' = w := by
  have e1 := run_text a1 n1 c1 bs w h1 hb
  have e2 := run_text a2 n2 c2 bs w h2 hb
  go_enter Tryz.func10, Tryz.ntmps10
  go_wp2
  go_ret
  exact ⟨rfl, rfl⟩

theorem eqRow513 (w : World) : (Op.equalIn 10000 28 (.agg #[.int .u64 513, .int .u64 0, .int .u64 0, .int .u64 0]) (.agg #[.int .u64 513, .int .u64 0, .int .u64 0, .int .u64 0])).run Tryz.prog w = .ok true w := by kernel_rfl
theorem size_Row : (Tryz.prog.info? 28).map (·.size) = some 4 := by kernel_rfl
set_option maxRecDepth 100000 in
set_option maxHeartbeats 1000000 in
/-- one row each, the same -/
theorem rowsEqual1 (a1 a2 : Option Addr) (c1 c2 : Nat) (xs : List Value) (w : World) (h1 : View w 4 a1 1 xs) (h2 : View w 4 a2 1 xs) (hx : xs = [.int .u64 513, .int .u64 0, .int .u64 0, .int .u64 0]) :
    Calls Tryz.prog 33 #[.slice a1 1 c1, .slice a2 1 c2] w fun e w' => e = .returned (.bool true) ∧ Upd [] w w' := by
  obtain ⟨b1, o1, rfl, r1, l1⟩ := h1.at_ (by omega)
  obtain ⟨b2, o2, rfl, r2, l2⟩ := h2.at_ (by omega)
  have hl := h1.len
  go_enter Tryz.func33, Tryz.ntmps33
  go_wp2
  go_loopw [13] (fun i wr => ∃ k : Nat, k ≤ 1 ∧ i = .int .i64 k ∧ Upd [] w wr)
    (fun i _ => 2 - (intOf i).toNat)
  case atStart => exact ⟨0, by omega, rfl, Upd.refl _ _⟩
  case round =>
    obtain ⟨k, hk, rfl, hU⟩ := hrel
    by_cases hlt : k < 1
    · obtain rfl : k = 0 := by omega
      have r1' := hU.range r1 l1 (by simp)
      have r2' := hU.range r2 l2 (by simp)
      have l1' := Nat.lt_of_lt_of_le l1 hU.size
      have l2' := Nat.lt_of_lt_of_le l2 hU.size
      have hu := Tryz.underlying28
      have hs : (Tryz.prog.info? 28).map (·.size) = some xs.length := by rw [hl]; exact size_Row
      go_wp2
      refine wp_region_split (S := Upd [] wr) [(true, 0), (true, 1), (true, 2), (true, 3), (true, 4), (true, 5), (true, 6), (true, 7), (true, 8)] [] [] (by kernel_rfl) (by kernel_rfl) (fun _ _ d _ _ h => by cases d <;> exact h) ((Upd.refl _ _).drew) ?_
      simp only [readsAt, opersAt, Option.map_some, List.filterMap_cons, List.filterMap_nil, List.getElem?_toArray, List.getElem?_cons_succ, List.getElem?_cons_zero]
      refine ⟨_, Or.inl ⟨by rfl, fun w' hS => by first | (go_simp; done) | (go_simp; with_reducible rfl)⟩, ?_⟩
      simp only [Act.put, List.setIfInBounds_toArray, List.set_cons_zero, List.set_cons_succ]
      refine ⟨_, Or.inl ⟨by rfl, fun w' hS => by first | (go_simp; done) | (go_simp; with_reducible rfl)⟩, ?_⟩
      simp only [Act.put, List.setIfInBounds_toArray, List.set_cons_zero, List.set_cons_succ]
      refine ⟨_, Or.inl ⟨by rfl, fun w' hS => by first | (go_simp; done) | (go_simp; with_reducible rfl)⟩, ?_⟩
      simp only [Act.put, List.setIfInBounds_toArray, List.set_cons_zero, List.set_cons_succ]
      refine ⟨_, yieldsIf_load_mid (by rfl) _ _ rfl b1 o1 rfl xs _ (fun w' hS => Upd.range hS r1' l1' (by simp)) hu rfl hs, ?_⟩
      simp only [Act.put, List.setIfInBounds_toArray, List.set_cons_zero, List.set_cons_succ]
      refine ⟨_, Or.inl ⟨by rfl, fun w' hS => by first | (go_simp; done) | (go_simp; with_reducible rfl)⟩, ?_⟩
      simp only [Act.put, List.setIfInBounds_toArray, List.set_cons_zero, List.set_cons_succ]
      refine ⟨_, Or.inl ⟨by rfl, fun w' hS => by first | (go_simp; done) | (go_simp; with_reducible rfl)⟩, ?_⟩
      simp only [Act.put, List.setIfInBounds_toArray, List.set_cons_zero, List.set_cons_succ]
      refine ⟨_, Or.inl ⟨by rfl, fun w' hS => by first | (go_simp; done) | (go_simp; with_reducible rfl)⟩, ?_⟩
      simp only [Act.put, List.setIfInBounds_toArray, List.set_cons_zero, List.set_cons_succ]
      refine ⟨_, yieldsIf_load_mid (by rfl) _ _ rfl b2 o2 rfl xs _ (fun w' hS => Upd.range hS r2' l2' (by simp)) hu rfl hs, ?_⟩
      simp only [Act.put, List.setIfInBounds_toArray, List.set_cons_zero, List.set_cons_succ]
      refine ⟨_, Or.inl ⟨by rfl, fun w' hS => by go_simp; rw [eqRow513]; simp only [Result.andThen_ok, Bool.not_true]; with_reducible rfl⟩, ?_⟩
      simp only [Act.put, List.setIfInBounds_toArray, List.set_cons_zero, List.set_cons_succ]
      simp only [readsThen, preThen]
      change wpList _ _ _ [] _ _
      go_wp2
      have hd : Upd [] w wr.drew := hU.drew
      exact ⟨⟨1, by omega, rfl, hd⟩, by simp [intOf]⟩
    · obtain rfl : k = 1 := by omega
      go_wp2
      go_ret
      exact ⟨rfl, hU⟩
end Go.Proofs.YtpehfhdacgjmpaaGreat
