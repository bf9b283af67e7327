/- impl.ARMap; the guards over pairs. -/
import Derived.Test.YtpehfhdacgjmpaaGreatMapEnc
namespace Go.Proofs.YtpehfhdacgjmpaaGreat
open Go Go.RowKit
abbrev Pr := ByteArray × ByteArray
/-- a slice of slices of pairs -/
structure PairsV (w : World) (n : Nat) (vs : List Value) (pss : List (List Pr)) : Prop where
  len : vs.length = n
  lent : pss.length = n
  at_ : ∀ k (h : k < n), ∃ ax cx, vs[k]? = some (.slice ax (pss[k]'(by omega)).length cx) ∧ (pss[k]'(by omega)).length ≤ cx ∧ View w 2 ax (pss[k]'(by omega)).length ((pss[k]'(by omega)).flatMap cells_M)
theorem PairsV.upd {w w1 : World} {n : Nat} {vs : List Value} {pss : List (List Pr)} (h : PairsV w n vs pss) (hu : Upd [] w w1) : PairsV w1 n vs pss :=
  ⟨h.len, h.lent, fun k hk => by
    obtain ⟨ax, cx, h1, h0, h2⟩ := h.at_ k hk
    exact ⟨ax, cx, h1, h0, h2.upd hu (by simp)⟩⟩
/-- where each of the first k rows ends -/
def endsP (pss : List (List Pr)) (k : Nat) : List Int := (List.range k).map fun i => ((pss.take (i + 1)).flatten.length : Int)
theorem endsP_succ (pss : List (List Pr)) (k : Nat) : endsP pss (k + 1) = endsP pss k ++ [((pss.take (k + 1)).flatten.length : Int)] := by simp [endsP, List.range_succ]
theorem endsP_len (pss : List (List Pr)) (k : Nat) : (endsP pss k).length = k := by simp [endsP]
/-- few rows of few short pairs -/
structure FewP (pss : List (List Pr)) : Prop where
  rows : pss.length ≤ 12
  prs : ∀ r ∈ pss, r.length ≤ 8 ∧ PairsOk r
theorem FewP.len {pss : List (List Pr)} (h : FewP pss) (k : Nat) : (pss.take k).flatten.length ≤ 96 := by
  have h1 : ∀ (l : List (List Pr)), (∀ r ∈ l, r.length ≤ 8) → l.flatten.length ≤ l.length * 8 := by
    intro l
    induction l with
    | nil => intro _; simp
    | cons r l ih =>
      intro hl
      have h2 := ih (fun x hx => hl x (by simp [hx]))
      have h3 := hl r (by simp)
      rw [List.flatten_cons, List.length_append, List.length_cons, Nat.succ_mul]
      omega
  have h2 := h1 (pss.take k) (fun r hr => (h.prs r (List.mem_of_mem_take hr)).1)
  have h3 : (pss.take k).length ≤ 12 := by rw [List.length_take]; have := h.rows; omega
  have h4 := Nat.mul_le_mul_right 8 h3
  omega
theorem FewP.ok {pss : List (List Pr)} (h : FewP pss) (k : Nat) : PairsOk (pss.take k).flatten := fun p hp => by
  obtain ⟨r, hr, hpr⟩ := List.mem_flatten.1 hp
  exact (h.prs r (List.mem_of_mem_take hr)).2 p hpr
set_option maxRecDepth 100000 in
set_option maxHeartbeats 400000 in
theorem maps_new (w : World) : Calls Tryz.prog 52 #[] w fun e w' => ∃ q F, e = .returned (.pointer (some ⟨q, 0, none⟩)) ∧ MapCol w' q F [] [] [] ∧ Upd [] w w' ∧ ∀ x, x ∈ F → w.heap.size ≤ x := by
  have hC := StrCol.new w
  have hD := StrCol.new (w.alloc (Obj.cells #[.slice none 0 0, .slice none 0 0] 90))
  obtain ⟨k1, u1, s1⟩ := alloc_facts w (Obj.cells #[.slice none 0 0, .slice none 0 0] 90)
  obtain ⟨k2, u2, s2⟩ := alloc_facts (w.alloc (Obj.cells #[.slice none 0 0, .slice none 0 0] 90)) (Obj.cells #[.slice none 0 0, .slice none 0 0] 90)
  rw [s1] at k2 s2 hD
  go_enter Tryz.func52, Tryz.ntmps52
  go_wp2
  go_ret
  obtain ⟨k3, u3, s3⟩ := alloc_facts ((w.alloc (Obj.cells #[.slice none 0 0, .slice none 0 0] 90)).alloc (Obj.cells #[.slice none 0 0, .slice none 0 0] 90)) (Obj.cells #[.slice none 0 0, .iface 87 (.pointer (some ⟨w.heap.size, 0, none⟩)), .iface 87 (.pointer (some ⟨w.heap.size + 1, 0, none⟩))] 329)
  rw [s2] at k3 s3
  refine ⟨w.heap.size + 2, [w.heap.size, w.heap.size + 1, w.heap.size + 2], rfl, ⟨none, 0, w.heap.size, w.heap.size + 1, [w.heap.size], [w.heap.size + 1], ⟨⟨k3, Row.nil, by simp⟩, (hC.kept u2 (by simp)).kept u3 (by simp), hD.kept u3 (by simp), by simp, by simp, by simp, by simp, by simp⟩, by simp, by simp, by simp, by simp, ?_⟩, (u1.trans u2 (by simp)).trans u3 (by simp), ?_⟩
  · intro x hx
    simp at hx
    rw [s3]; omega
  · intro x hx
    simp at hx
    omega
set_option maxRecDepth 100000 in
set_option maxHeartbeats 2000000 in
theorem ARMap (ar : Option Addr) (n c : Nat) (vs : List Value) (pss : List (List Pr)) (w : World) (hr : View w 1 ar n vs) (hP : PairsV w n vs pss) (hfew : FewP pss) :
    Calls Tryz.prog 28 #[.slice ar n c] w fun e w' => (∃ ao c', e = .returned (.tuple #[.slice ao (n * 8 + (encS (keys_of pss.flatten)).length + (encS (vals_of pss.flatten)).length) c', .bool true]) ∧
      Row w' 5 1 ao (n * 8 + (encS (keys_of pss.flatten)).length + (encS (vals_of pss.flatten)).length) c' ((endsP pss n).flatMap (leV 8) ++ encS (keys_of pss.flatten) ++ encS (vals_of pss.flatten))) ∧ Upd [] w w' := by
  have hlen := hP.lent
  have hrows := hfew.rows
  obtain ⟨N, hN⟩ : ∃ N, N = n * 8 + (encS (keys_of pss.flatten)).length + (encS (vals_of pss.flatten)).length := ⟨_, rfl⟩
  rw [← hN]
  have HN := Lib.hid hN
  clear hN
  go_enter Tryz.func28, Tryz.ntmps28
  go_wp2_with (go_at_call 52; (refine (maps_new _).mono ?_); rintro e w1 ⟨q, F, rfl, hC1, hu1, hF1⟩)
  go_loopw [10] (fun i wr => ∃ (k : Nat) (F' : List Nat), k ≤ n ∧ i = .int .i64 k ∧ MapCol wr q F' (endsP pss k) (keys_of (pss.take k).flatten) (vals_of (pss.take k).flatten) ∧ Upd [] w wr ∧ ∀ x, x ∈ F' → w.heap.size ≤ x)
    (fun i _ => n - (intOf i).toNat)
  case atStart => exact ⟨0, F, Nat.zero_le _, rfl, by simpa [endsP, keys_of, vals_of] using hC1, hu1, hF1⟩
  case round =>
    obtain ⟨k, F', hk, rfl, hC, hU, hG⟩ := hrel
    have b1 := hfew.len k
    have bok := hfew.ok k
    have b2 : (keys_of (pss.take k).flatten).length = (pss.take k).flatten.length := List.length_map ..
    have b3 : (vals_of (pss.take k).flatten).length = (pss.take k).flatten.length := List.length_map ..
    have b4 := keys_tot _ bok
    have b5 := vals_tot _ bok
    have b6 := endsP_len pss k
    have b7 := keys_short _ bok
    have b8 := vals_short _ bok
    by_cases hlt : k < n
    · have hk0 : ((k : Int) < n) := by omega
      obtain ⟨b, o, rfl, hrr, hbb⟩ := hr.at_ (by omega)
      obtain ⟨ax, cx, hv1, hv0, hv2⟩ := hP.at_ k hlt
      obtain ⟨ps, hps⟩ : ∃ ps, ps = pss[k]'(by omega) := ⟨_, rfl⟩
      rw [← hps] at hv1 hv0 hv2
      have hsk := hfew.prs ps (by rw [hps]; exact List.getElem_mem _)
      have hcell : wr.cell? ⟨b, o + k, none⟩ = some (.slice ax ps.length cx) := by rw [hU.cell hbb (by simp)]; exact hrr k _ hv1
      have hx := hv2.upd hU (by simp)
      have e1 : (pss.take (k + 1)).flatten = (pss.take k).flatten ++ ps := by rw [List.take_succ_eq_append_getElem (by omega), List.flatten_append, ← hps]; simp
      have e2 := endsP_succ pss k
      rw [e1, List.length_append, ← b2] at e2
      have e3 : keys_of (pss.take (k + 1)).flatten = keys_of (pss.take k).flatten ++ keys_of ps := by rw [e1]; simp [keys_of]
      have e4 : vals_of (pss.take (k + 1)).flatten = vals_of (pss.take k).flatten ++ vals_of ps := by rw [e1]; simp [vals_of]
      obtain ⟨K, hK⟩ : ∃ K, K = keys_of (pss.take k).flatten := ⟨_, rfl⟩
      obtain ⟨V, hV⟩ : ∃ V, V = vals_of (pss.take k).flatten := ⟨_, rfl⟩
      obtain ⟨E, hE⟩ : ∃ E, E = endsP pss k := ⟨_, rfl⟩
      obtain ⟨L, hL⟩ : ∃ L, L = (pss.take k).flatten.length := ⟨_, rfl⟩
      rw [← hK, ← hV, ← hE] at hC
      rw [← hK, ← hE] at e2
      rw [← hK] at e3 b2 b4
      rw [← hV] at e4 b3 b5
      rw [← hE] at b6
      rw [← hL] at b1 b2 b3 b4 b5
      have H2 := Lib.hid e2
      have H3 := Lib.hid e3
      have H4 := Lib.hid e4
      have HB4 := Lib.hid b4
      have HB5 := Lib.hid b5
      have hlt5 := hC.lt
      clear hps e1 e2 e3 e4 hK hV hE hL b7 b8 bok b4 b5
      go_wp2_with (first
        | (go_at_call 54; (refine (turned_M ax ps.length cx ps _ hx (by omega)).mono ?_); rintro e w3 ⟨⟨a3, c3, rfl, hR3, hi3⟩, hu3⟩)
        | (go_at_call 53; go_loud (refine (AppendKV q F' E K V a3 ps.length c3 ps _ (hC.kept hu3 (by simp)) hR3.toView (fun h0 x hx' hx'' => (hi3 x hx').elim (fun h => by simp at h) (fun h => by have := hlt5 x hx''; omega)) (by omega) hsk.2 (by omega) (by have := HB4.out; omega) (by omega) (by have := HB5.out; omega) (by omega)).mono ?_); rintro e w4 ⟨rfl, F2, hC4, hU4, hG4⟩))
      have hUx : Upd [] w w4 := (hU.trans hu3 (by simp)).trans hU4 (fun x hx => .inr (hG x hx))
      have hGx : ∀ x, x ∈ F2 → w.heap.size ≤ x := fun x hx => (hG4 x hx).elim (hG x) (fun h => by have := hU.size; have := hu3.size; omega)
      have hCx : MapCol w4 q F2 (endsP pss (k + 1)) (keys_of (pss.take (k + 1)).flatten) (vals_of (pss.take (k + 1)).flatten) := by
        rw [H2.out, H3.out, H4.out]
        exact hC4
      clear hC4 hU4 hG4 hC hU hG hR3 hi3 hu3
      go_roundw
      case rel => exact ⟨k + 1, F2, by omega, by go_num, hCx, hUx, hGx⟩
      case measure => simp [intOf]; omega
    · have hk0 : n ≤ k := by omega
      obtain rfl : k = n := by omega
      rw [List.take_of_length_le (by omega)] at hC b1 b2 b3 b4 b5 b7 b8
      have hz : endsP pss k = [] → keys_of pss.flatten = [] ∧ vals_of pss.flatten = [] := fun h => by
        have h1 : (endsP pss k).length = 0 := by rw [h]; rfl
        have h2 : pss = [] := List.eq_nil_of_length_eq_zero (by omega)
        subst h2
        exact ⟨rfl, rfl⟩
      have hE := encodes_M q F' _ _ _ wr hC b7 b8 (by omega) (by omega) (by omega) (by omega) (by omega) hz
      rw [b6, ← HN.out] at hE
      clear b1 b2 b3 b4 b5 b6 b7 b8 hz
      go_wp2_with (go_at_call 48; (refine hE.mono ?_); rintro e w3 ⟨⟨ao3, c3, rfl, hR3⟩, hU3⟩)
      refine bodyPost_ret (results_tmp2 Tryz.results28 _ _ _) rfl ⟨⟨ao3, c3, rfl, hR3⟩, hU.trans hU3 (by simp)⟩

/-! ### the guards -/
def Fit (p : Pr) : Prop := p.1.size ≤ 2147483647 ∧ p.2.size ≤ 2147483647
set_option maxRecDepth 100000 in
set_option maxHeartbeats 400000 in
theorem zzFits10 (k s : ByteArray) (w : World) : Calls Tryz.prog 106 #[.agg #[.string k, .string s]] w fun e w' => (∃ b, e = .returned (.bool b) ∧ (b = true → Fit (k, s))) ∧ Upd [] w w' := by
  go_enter Tryz.func106, Tryz.ntmps106
  by_cases hb : 2147483647 < k.size
  · have hb' : ((2147483647 : Int) < k.size) := by omega
    go_wp2
    go_ret
    exact ⟨by first | exact ⟨_, rfl, fun h => by cases h⟩ | exact .inl rfl, (Upd.refl _ _).alloc _⟩
  · have hb' : ¬ ((2147483647 : Int) < k.size) := by omega
    by_cases hc : 2147483647 < s.size
    · have hc' : ((2147483647 : Int) < s.size) := by omega
      go_wp2
      go_ret
      exact ⟨by first | exact ⟨_, rfl, fun h => by cases h⟩ | exact .inl rfl, (Upd.refl _ _).alloc _⟩
    · have hc' : ¬ ((2147483647 : Int) < s.size) := by omega
      have hfit : Fit (k, s) := ⟨by show k.size ≤ _; omega, by show s.size ≤ _; omega⟩
      have HF := Lib.hid hfit
      clear hfit
      go_wp2
      go_ret
      exact ⟨by first | exact ⟨_, rfl, fun _ => HF.out⟩ | exact .inr ⟨rfl, HF.out⟩, (Upd.refl _ _).alloc _⟩
set_option maxRecDepth 100000 in
set_option maxHeartbeats 1000000 in
theorem zzFits9 (ar : Option Addr) (n c : Nat) (ms : List Pr) (w : World) (hr : View w 2 ar n (ms.flatMap cells_M)) :
    Calls Tryz.prog 50 #[.slice ar n c] w fun e w' => (∃ b, e = .returned (.bool b) ∧ (b = true → ∀ p ∈ ms, Fit p)) ∧ Upd [] w w' := by
  have hml : ms.length = n := by have := hr.len; rw [flatMap_len _ 2 cells_M_len] at this; omega
  go_enter Tryz.func50, Tryz.ntmps50
  by_cases hb : 2147483647 < n
  · have hb' : ((2147483647 : Int) < n) := by omega
    go_wp2
    go_ret
    exact ⟨⟨_, rfl, fun h => by cases h⟩, Upd.refl _ _⟩
  · have hb' : ¬ ((2147483647 : Int) < n) := by omega
    go_wp2
    go_loopw [10] (fun i wr => ∃ k : Nat, k ≤ n ∧ i = .int .i64 k ∧ Upd [] w wr ∧ ∀ p ∈ ms.take k, Fit p)
      (fun i _ => n - (intOf i).toNat)
    case atStart => exact ⟨0, Nat.zero_le _, rfl, Upd.refl _ _, by simp⟩
    case round =>
      obtain ⟨k, hk, rfl, hU, hall⟩ := hrel
      by_cases hlt : k < n
      · have hk0 : ((k : Int) < n) := by omega
        obtain ⟨b, o, rfl, hrr, hbb⟩ := hr.at_ (by omega)
        obtain ⟨m, hm⟩ : ∃ m, m = ms[k]'(by omega) := ⟨_, rfl⟩
        obtain ⟨d0, d1⟩ := two_M hrr hbb hU (by simp) k hlt hml hm
        have hstep : Fit m → ∀ p ∈ ms.take (k + 1), Fit p := fun h0 p hp => by
          rw [List.take_succ_eq_append_getElem (by omega)] at hp
          rcases List.mem_append.1 hp with h | h
          · exact hall p h
          · simp at h; subst h; rw [← hm]; exact h0
        have HA := Lib.hid hstep
        clear hm hall hstep
        obtain ⟨mb, mt⟩ := m
        simp only at d0 d1
        go_wp2_with (go_at_call 106; (refine (zzFits10 mb mt _).mono ?_); rintro e w2 ⟨⟨bb, rfl, hbb'⟩, hu2⟩; have hU2 := (hU.alloc _).trans hu2 (by simp); have HB := Lib.hid hbb'; clear hbb'; cases bb)
        · go_ret
          exact ⟨⟨_, rfl, fun h => by cases h⟩, hU2⟩
        · have hA := HA.out (HB.out (by first | trivial | rfl))
          go_roundw
          case rel => exact ⟨k + 1, by omega, by go_num, hU2, hA⟩
          case measure => simp [intOf]; omega
      · have hk0 : n ≤ k := by omega
        obtain rfl : k = n := by omega
        rw [List.take_of_length_le (by omega)] at hall
        have HA := Lib.hid hall
        clear hall
        go_wp2
        go_ret
        exact ⟨⟨_, rfl, fun _ => HA.out⟩, hU⟩
set_option maxRecDepth 100000 in
set_option maxHeartbeats 1000000 in
theorem zzFits8 (ar : Option Addr) (n c : Nat) (vs : List Value) (pss : List (List Pr)) (w : World) (hr : View w 1 ar n vs) (hP : PairsV w n vs pss) :
    Calls Tryz.prog 25 #[.slice ar n c] w fun e w' => (∃ b, e = .returned (.bool b) ∧ (b = true → ∀ r ∈ pss, ∀ p ∈ r, Fit p)) ∧ Upd [] w w' := by
  have hlent := hP.lent
  go_enter Tryz.func25, Tryz.ntmps25
  by_cases hb : 2147483647 < n
  · have hb' : ((2147483647 : Int) < n) := by omega
    go_wp2
    go_ret
    exact ⟨⟨_, rfl, fun h => by cases h⟩, Upd.refl _ _⟩
  · have hb' : ¬ ((2147483647 : Int) < n) := by omega
    go_wp2
    go_loopw [10] (fun i wr => ∃ k : Nat, k ≤ n ∧ i = .int .i64 k ∧ Upd [] w wr ∧ ∀ r ∈ pss.take k, ∀ p ∈ r, Fit p)
      (fun i _ => n - (intOf i).toNat)
    case atStart => exact ⟨0, Nat.zero_le _, rfl, Upd.refl _ _, by simp⟩
    case round =>
      obtain ⟨k, hk, rfl, hU, hall⟩ := hrel
      by_cases hlt : k < n
      · have hk0 : ((k : Int) < n) := by omega
        obtain ⟨b, o, rfl, hrr, hbb⟩ := hr.at_ (by omega)
        obtain ⟨ax, cx, hv1, hv0, hv2⟩ := hP.at_ k hlt
        obtain ⟨ps, hx⟩ : ∃ ps, ps = pss[k]'(by omega) := ⟨_, rfl⟩
        rw [← hx] at hv1 hv0 hv2
        have hcell : wr.cell? ⟨b, o + k, none⟩ = some (.slice ax ps.length cx) := (hU.cell hbb (by simp)).trans (hrr k _ hv1)
        have hxv := hv2.upd hU (by simp)
        have hstep : (∀ p ∈ ps, Fit p) → ∀ r ∈ pss.take (k + 1), ∀ p ∈ r, Fit p := fun h0 r hr => by
          rw [List.take_succ_eq_append_getElem (by omega)] at hr
          rcases List.mem_append.1 hr with h | h
          · exact hall r h
          · simp at h; subst h; rw [← hx]; exact h0
        have HA := Lib.hid hstep
        clear hx hall hstep hv0
        go_wp2_with (go_at_call 50; (refine (zzFits9 ax _ cx ps _ hxv).mono ?_); rintro e w2 ⟨⟨bb, rfl, hbb'⟩, hu2⟩; have hU2 := hU.trans hu2 (by simp); have HB := Lib.hid hbb'; clear hbb'; cases bb)
        · go_ret
          exact ⟨⟨_, rfl, fun h => by cases h⟩, hU2⟩
        · have hA := HA.out (HB.out (by first | trivial | rfl))
          go_roundw
          case rel => exact ⟨k + 1, by omega, by go_num, hU2, hA⟩
          case measure => simp [intOf]; omega
      · have hk0 : n ≤ k := by omega
        obtain rfl : k = n := by omega
        rw [List.take_of_length_le (by omega)] at hall
        have HA := Lib.hid hall
        clear hall
        go_wp2
        go_ret
        exact ⟨⟨_, rfl, fun _ => HA.out⟩, hU⟩
set_option maxRecDepth 100000 in
set_option maxHeartbeats 400000 in
theorem sameKey (g : Nat) (k s k2 s2 : ByteArray) (w : World) (hg : w.heap[g]? = some (.cells #[.string k2, .string s2] 60 (0, 0))) : Calls Tryz.prog 27 #[.agg #[.string k, .string s], .pointer (some ⟨g, 0, none⟩)] w fun e w' => (∃ b, e = .returned (.bool b)) ∧ Upd [] w w' := by
  have c0 : w.cell? ⟨g, 0, none⟩ = some (.string k2) := by simp only [World.cell?, hg]; rfl
  have c1 := ((Upd.refl [] w).alloc (Obj.cells #[.string k, .string s] 60)).cell1 c0 (by simp)
  go_enter Tryz.func27, Tryz.ntmps27
  go_wp2
  go_ret
  exact ⟨⟨_, rfl⟩, (Upd.refl _ _).alloc _⟩
end Go.Proofs.YtpehfhdacgjmpaaGreat
