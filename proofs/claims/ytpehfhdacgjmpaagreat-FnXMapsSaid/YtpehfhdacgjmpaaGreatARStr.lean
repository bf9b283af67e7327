/- ARStr: what it encodes. -/
import Derived.Test.YtpehfhdacgjmpaaGreatArrEnc
namespace Go.Proofs.YtpehfhdacgjmpaaGreat
open Go Go.RowKit
/-- a slice of slices of strings -/
structure StrsV (w : World) (n : Nat) (vs : List Value) (sss : List (List ByteArray)) : Prop where
  len : vs.length = n
  lent : sss.length = n
  at_ : ∀ k (h : k < n), ∃ ax cx, vs[k]? = some (.slice ax (sss[k]'(by omega)).length cx) ∧ View w 1 ax (sss[k]'(by omega)).length ((sss[k]'(by omega)).map Value.string)
/-- where each of the first k rows ends -/
def endsN (sss : List (List ByteArray)) (k : Nat) : List Int := (List.range k).map fun i => ((sss.take (i + 1)).flatten.length : Int)
theorem endsN_succ (sss : List (List ByteArray)) (k : Nat) : endsN sss (k + 1) = endsN sss k ++ [((sss.take (k + 1)).flatten.length : Int)] := by simp [endsN, List.range_succ]
theorem endsN_len (sss : List (List ByteArray)) (k : Nat) : (endsN sss k).length = k := by simp [endsN]
/-- few rows of few short strings -/
structure Few (sss : List (List ByteArray)) : Prop where
  rows : sss.length ≤ 20
  strs : ∀ r ∈ sss, r.length ≤ 12 ∧ ∀ s ∈ r, s.size ≤ 60
theorem flat_len_le (l : List (List ByteArray)) (m : Nat) (h : ∀ r ∈ l, r.length ≤ m) : l.flatten.length ≤ l.length * m := by
  induction l with
  | nil => simp
  | cons r l ih =>
    have h1 := ih (fun x hx => h x (by simp [hx]))
    have h2 := h r (by simp)
    rw [List.flatten_cons, List.length_append, List.length_cons, Nat.succ_mul]
    omega
theorem Few.len {sss : List (List ByteArray)} (h : Few sss) (k : Nat) : (sss.take k).flatten.length ≤ 240 := by
  have h1 := flat_len_le (sss.take k) 12 (fun r hr => (h.strs r (List.mem_of_mem_take hr)).1)
  have h2 : (sss.take k).length ≤ 20 := by rw [List.length_take]; have := h.rows; omega
  have h3 := Nat.mul_le_mul_right 12 h2
  omega
theorem Few.tot {sss : List (List ByteArray)} (h : Few sss) (k : Nat) : Proofs.YtpehfhdacgjmpaaGreat.tot ((sss.take k).flatten.map byteCells) ≤ 14400 := by
  have h1 := tot_le (sss.take k).flatten 60 (fun s hs => by
    obtain ⟨r, hr, hsr⟩ := List.mem_flatten.1 hs
    exact (h.strs r (List.mem_of_mem_take hr)).2 s hsr)
  have h2 := Nat.mul_le_mul_right 60 (h.len k)
  omega
theorem Few.short {sss : List (List ByteArray)} (h : Few sss) : Short (sss.flatten.map byteCells) := fun t ht => by
  obtain ⟨s, hs, rfl⟩ := List.mem_map.1 ht
  obtain ⟨r, hr, hsr⟩ := List.mem_flatten.1 hs
  have := (h.strs r hr).2 s hsr
  refine ⟨by simp [byteCells]; have h2 : s.size = s.data.size := rfl; omega, fun u hu => ?_⟩
  obtain ⟨b, _, rfl⟩ := List.mem_map.1 hu
  rfl
set_option maxRecDepth 100000 in
set_option maxHeartbeats 1000000 in
theorem encodesOf_A (q : Nat) (F : List Nat) (ar : Option Addr) (n c : Nat) (vs : List Value) (sss : List (List ByteArray)) (w : World) (h : ArrCol w q F [] []) (hr : View w 1 ar n vs) (hS : StrsV w n vs sss) (hfew : Few sss) (hF : ∀ x, x ∈ F → ∀ y, ((0 < n ∧ y ∈ bk ar) ∨ ∃ (k : Nat) (ax : Option Addr) (l cx : Nat), vs[k]? = some (Value.slice ax l cx) ∧ y ∈ bk ax ∧ 0 < l) → x ≠ y) :
    Calls Tryz.prog 37 #[.iface 81 (.pointer (some ⟨q, 0, none⟩)), .slice ar n c] w fun e w' => (∃ ao c', e = .returned (.tuple #[.slice ao (n * 8 + (encS (sss.flatten.map byteCells)).length) c', .bool true]) ∧ Row w' 5 1 ao (n * 8 + (encS (sss.flatten.map byteCells)).length) c' ((endsN sss n).flatMap (leV 8) ++ encS (sss.flatten.map byteCells))) ∧ Upd F w w' := by
  have hlen := hS.lent
  have hrows := hfew.rows
  go_enter Tryz.func37, Tryz.ntmps37
  go_wp2
  have hm := methAp_A q
  go_loopw [10] (fun i wr => ∃ (k : Nat) (F' : List Nat), k ≤ n ∧ i = .int .i64 k ∧ ArrCol wr q F' (endsN sss k) ((sss.take k).flatten.map byteCells) ∧ Upd F w wr ∧ Grows w.heap.size F F')
    (fun i _ => n - (intOf i).toNat)
  case atStart => exact ⟨0, F, Nat.zero_le _, rfl, by simpa [endsN] using h, Upd.refl _ _, fun x hx => .inl hx⟩
  case round =>
    obtain ⟨k, F', hk, rfl, hC, hU, hG⟩ := hrel
    by_cases hlt : k < n
    · have hk0 : ((k : Int) < n) := by omega
      obtain ⟨b, o, rfl, hrr, hbb⟩ := hr.at_ (by omega)
      obtain ⟨ax, cx, hv1, hv2⟩ := hS.at_ k hlt
      obtain ⟨ss, hss⟩ : ∃ ss, ss = sss[k]'(by omega) := ⟨_, rfl⟩
      rw [← hss] at hv1 hv2
      have hsk := hfew.strs ss (by rw [hss]; exact List.getElem_mem _)
      have hbF : b ∉ F := fun hx => hF b hx b (.inl ⟨by omega, by simp⟩) rfl
      have hcell : wr.cell? ⟨b, o + k, none⟩ = some (.slice ax ss.length cx) := by rw [hU.cell hbb hbF]; exact hrr k _ hv1
      have haxF : 0 < ss.length → ∀ x, x ∈ bk ax → x ∉ F := fun h0 x hx hx' => hF x hx' x (.inr ⟨k, ax, _, cx, hv1, hx, h0⟩) rfl
      have hx : View wr 1 ax ss.length (ss.map Value.string) := by
        by_cases h0 : 0 < ss.length
        · exact hv2.upd hU (haxF h0)
        · have : ss = [] := List.eq_nil_of_length_eq_zero (by omega)
          subst this
          exact View.nil
      have haxF' : 0 < ss.length → ∀ x, x ∈ bk ax → x ∉ F' := fun h0 x hx' hx'' => (hG x hx'').elim (haxF h0 x hx') (fun h => by have := hv2.lt h0 x hx'; omega)
      have b1 := hfew.len k
      have b2 := hfew.tot k
      have HS := Lib.hid hss
      have HB := Lib.hid b2
      clear hss b2
      go_wp2_with (go_at_call 149; (refine (ColArr_Append q F' _ _ ax ss.length cx ss _ hC hx haxF' (by omega) (fun s hs => by have := hsk.2 s hs; omega) (by rw [List.length_map]; omega) (by have := HB.out; omega) (by rw [endsN_len]; omega)).mono ?_); rintro e w2 ⟨rfl, F2, hC2, hU2, hG2⟩)
      have hUx : Upd F w w2 := hU.trans hU2 hG
      have hGx : Grows w.heap.size F F2 := fun x hx => (hG2 x hx).elim (hG x) (fun h => .inr (Nat.le_trans hU.size h))
      have hCx : ArrCol w2 q F2 (endsN sss (k + 1)) ((sss.take (k + 1)).flatten.map byteCells) := by
        have e1 : (sss.take (k + 1)).flatten = (sss.take k).flatten ++ ss := by rw [List.take_succ_eq_append_getElem (by omega), List.flatten_append, ← HS.out]; simp
        rw [endsN_succ, e1, List.map_append, List.length_append]
        rw [List.length_map] at hC2
        exact hC2
      clear hC2 hU2 hG2 hC hU hG
      go_roundw
      case rel => exact ⟨k + 1, F2, by omega, by go_num, hCx, hUx, hGx⟩
      case measure => simp [intOf]; omega
    · have hk0 : n ≤ k := by omega
      obtain rfl : k = n := by omega
      have b1 := hfew.len k
      have b2 := hfew.tot k
      rw [List.take_of_length_le (by omega)] at hC b1 b2
      have hel := endsN_len sss k
      have HB := Lib.hid b2
      have HE := Lib.hid hel
      clear b2 hel
      go_wp2_with (go_at_call 48; (refine (encodes_A q F' _ _ _ hC hfew.short (by rw [List.length_map]; omega) (by have := HB.out; omega) (by rw [HE.out]; omega)).mono ?_); rintro e w3 ⟨⟨ao3, c3, rfl, hR3⟩, hU3⟩; obtain ⟨N, hN⟩ : ∃ N, N = (endsN sss k).length * 8 + (encS (sss.flatten.map byteCells)).length := ⟨_, rfl⟩; rw [← hN] at hR3 ⊢; have HN := Lib.hid hN; clear hN)
      have hN := HN.out
      rw [HE.out] at hN
      rw [hN] at hR3
      refine bodyPost_ret (results_tmp2 Tryz.results37 _ _ _) rfl ⟨⟨ao3, c3, ?_, hR3⟩, hU.trans hU3 (by simp)⟩
      rw [← hN]
      rfl

set_option maxRecDepth 100000 in
set_option maxHeartbeats 1000000 in
theorem strs_new (w : World) : Calls Tryz.prog 38 #[] w fun e w' => ∃ q F, e = .returned (.pointer (some ⟨q, 0, none⟩)) ∧ ArrCol w' q F [] [] ∧ Upd [] w w' ∧ ∀ x, x ∈ F → w.heap.size ≤ x := by
  have hC := StrCol.new w
  obtain ⟨k1, u1, s1⟩ := alloc_facts w (Obj.cells #[.slice none 0 0, .slice none 0 0] 90)
  go_enter Tryz.func38, Tryz.ntmps38
  go_wp2
  go_ret
  obtain ⟨k2, u2, s2⟩ := alloc_facts (w.alloc (Obj.cells #[.slice none 0 0, .slice none 0 0] 90)) (Obj.cells #[.slice none 0 0, .iface 87 (.pointer (some ⟨w.heap.size, 0, none⟩))] 322)
  rw [s1] at k2 s2
  refine ⟨w.heap.size + 1, [w.heap.size, w.heap.size + 1], rfl, ⟨none, 0, w.heap.size, [w.heap.size], ⟨k2, Row.nil, by simp⟩, hC.kept u2 (by simp), by simp, by simp, by simp, by simp, by simp, ?_⟩, u1.trans u2 (fun _ h => .inl h), ?_⟩
  · intro x hx
    simp at hx
    rw [s2]; omega
  · intro x hx
    simp at hx
    omega
theorem StrsV.upd {w w1 : World} {n : Nat} {vs : List Value} {sss : List (List ByteArray)} (h : StrsV w n vs sss) (hu : Upd [] w w1) : StrsV w1 n vs sss :=
  ⟨h.len, h.lent, fun k hk => by
    obtain ⟨ax, cx, h1, h2⟩ := h.at_ k hk
    exact ⟨ax, cx, h1, h2.upd hu (by simp)⟩⟩
set_option maxRecDepth 100000 in
set_option maxHeartbeats 1000000 in
theorem ARStr (ar : Option Addr) (n c : Nat) (vs : List Value) (sss : List (List ByteArray)) (w : World) (hr : View w 1 ar n vs) (hS : StrsV w n vs sss) (hfew : Few sss) :
    Calls Tryz.prog 16 #[.slice ar n c] w fun e w' => (∃ ao c', e = .returned (.tuple #[.slice ao (n * 8 + (encS (sss.flatten.map byteCells)).length) c', .bool true]) ∧ Row w' 5 1 ao (n * 8 + (encS (sss.flatten.map byteCells)).length) c' ((endsN sss n).flatMap (leV 8) ++ encS (sss.flatten.map byteCells))) ∧ Upd [] w w' := by
  go_enter Tryz.func16, Tryz.ntmps16
  have hold : ∀ y, ((0 < n ∧ y ∈ bk ar) ∨ ∃ (k : Nat) (ax : Option Addr) (l cx : Nat), vs[k]? = some (Value.slice ax l cx) ∧ y ∈ bk ax ∧ 0 < l) → y < w.heap.size := fun y hy => by
    rcases hy with ⟨h0, h⟩ | ⟨k, ax, l, cx, h1, h2, h3⟩
    · exact hr.lt h0 y h
    · have hk : k < n := by have := (List.getElem?_eq_some_iff.1 h1).1; have := hS.len; omega
      obtain ⟨ay, cy, h4, h5⟩ := hS.at_ k hk
      rw [h1] at h4
      simp only [Option.some.injEq, Value.slice.injEq] at h4
      obtain ⟨rfl, h6, _⟩ := h4
      exact h5.lt (by omega) y h2
  go_wp2_with (first
    | (go_at_call 38; (refine (strs_new _).mono ?_); rintro e w1 ⟨q, F, rfl, hC, hu1, hF⟩)
    | (go_at_call 37; (refine (encodesOf_A q F ar n c vs sss w1 hC (hr.upd hu1 (by simp)) (hS.upd hu1) hfew (fun x hx y hy e => by have := hold y hy; have := hF x hx; omega)).mono ?_); rintro e w2 ⟨⟨ao2, c2, rfl, hR2⟩, hu2⟩; obtain ⟨N, hN⟩ : ∃ N, N = n * 8 + (encS (sss.flatten.map byteCells)).length := ⟨_, rfl⟩; rw [← hN] at hR2 ⊢; have HN := Lib.hid hN; clear hN))
  rw [HN.out] at hR2
  refine bodyPost_ret (results_tmp2 Tryz.results16 _ _ _) rfl ⟨⟨ao2, c2, ?_, hR2⟩, hu1.trans hu2 (fun y hy => .inr (hF y hy))⟩
  rw [← HN.out]
  rfl
end Go.Proofs.YtpehfhdacgjmpaaGreat
