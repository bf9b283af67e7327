/- The laws' guards over strings: what they answer. -/
import Derived.Test.YtpehfhdacgjmpaaGreatARStr
namespace Go.Proofs.YtpehfhdacgjmpaaGreat
open Go Go.RowKit
set_option maxRecDepth 100000 in
set_option maxHeartbeats 1000000 in
theorem zzFits2 (ax : Option Addr) (n c : Nat) (ss : List ByteArray) (w : World) (hv : View w 1 ax n (ss.map Value.string)) :
    Calls Tryz.prog 34 #[.slice ax n c] w fun e w' => (∃ b, e = .returned (.bool b)) ∧ Upd [] w w' := by
  have hsl : ss.length = n := by have := hv.len; simpa using this
  go_enter Tryz.func34, Tryz.ntmps34
  by_cases hb : 2147483647 < n
  · have hb' : ((2147483647 : Int) < n) := by omega
    go_wp2
    go_ret
    exact ⟨⟨_, rfl⟩, Upd.refl _ _⟩
  · have hb' : ¬ ((2147483647 : Int) < n) := by omega
    go_wp2
    go_loopw [10] (fun i wr => ∃ k : Nat, k ≤ n ∧ i = .int .i64 k ∧ Upd [] w wr)
      (fun i _ => n - (intOf i).toNat)
    case atStart => exact ⟨0, Nat.zero_le _, rfl, Upd.refl _ _⟩
    case round =>
      obtain ⟨k, hk, rfl, hU⟩ := hrel
      by_cases hlt : k < n
      · have hk0 : ((k : Int) < n) := by omega
        obtain ⟨b, o, rfl, hrr, hbb⟩ := hv.at_ (by omega)
        obtain ⟨s, hx⟩ : ∃ s, s = ss[k]'(by omega) := ⟨_, rfl⟩
        have hcell : wr.cell? ⟨b, o + k, none⟩ = some (.string s) := (hU.cell hbb (by simp)).trans (hrr k _ (by rw [List.getElem?_map, List.getElem?_eq_getElem (by omega), hx]; rfl))
        have HX := Lib.hid hx
        clear hx
        by_cases hs : 2147483647 < s.size
        · have hs' : ((2147483647 : Int) < s.size) := by omega
          go_wp2
          go_ret
          exact ⟨⟨_, rfl⟩, hU⟩
        · have hs' : ¬ ((2147483647 : Int) < s.size) := by omega
          go_wp2
          go_roundw
          case rel => exact ⟨k + 1, by omega, by go_num, hU⟩
          case measure => simp [intOf]; omega
      · have hk0 : n ≤ k := by omega
        obtain rfl : k = n := by omega
        go_wp2
        go_ret
        exact ⟨⟨_, rfl⟩, hU⟩

set_option maxRecDepth 100000 in
set_option maxHeartbeats 1000000 in
theorem zzFits1 (ar : Option Addr) (n c : Nat) (vs : List Value) (sss : List (List ByteArray)) (w : World) (hr : View w 1 ar n vs) (hS : StrsV w n vs sss) :
    Calls Tryz.prog 13 #[.slice ar n c] w fun e w' => (∃ b, e = .returned (.bool b)) ∧ Upd [] w w' := by
  go_enter Tryz.func13, Tryz.ntmps13
  by_cases hb : 2147483647 < n
  · have hb' : ((2147483647 : Int) < n) := by omega
    go_wp2
    go_ret
    exact ⟨⟨_, rfl⟩, Upd.refl _ _⟩
  · have hb' : ¬ ((2147483647 : Int) < n) := by omega
    go_wp2
    go_loopw [10] (fun i wr => ∃ k : Nat, k ≤ n ∧ i = .int .i64 k ∧ Upd [] w wr)
      (fun i _ => n - (intOf i).toNat)
    case atStart => exact ⟨0, Nat.zero_le _, rfl, Upd.refl _ _⟩
    case round =>
      obtain ⟨k, hk, rfl, hU⟩ := hrel
      by_cases hlt : k < n
      · have hk0 : ((k : Int) < n) := by omega
        obtain ⟨b, o, rfl, hrr, hbb⟩ := hr.at_ (by omega)
        obtain ⟨ax, cx, hv1, hv2⟩ := hS.at_ k hlt
        have hlent := hS.lent
        obtain ⟨ss, hx⟩ : ∃ ss, ss = sss[k]'(by omega) := ⟨_, rfl⟩
        rw [← hx] at hv1 hv2
        have hcell : wr.cell? ⟨b, o + k, none⟩ = some (.slice ax ss.length cx) := (hU.cell hbb (by simp)).trans (hrr k _ hv1)
        have hxv := hv2.upd hU (by simp)
        have HX := Lib.hid hx
        clear hx
        go_wp2_with (go_at_call 34; (refine (zzFits2 ax _ cx ss _ hxv).mono ?_); rintro e w2 ⟨⟨bb, rfl⟩, hu2⟩; have hU2 := hU.trans hu2 (by simp); cases bb)
        · go_ret
          exact ⟨⟨_, rfl⟩, hU2⟩
        · go_roundw
          case rel => exact ⟨k + 1, by omega, by go_num, hU2⟩
          case measure => simp [intOf]; omega
      · have hk0 : n ≤ k := by omega
        obtain rfl : k = n := by omega
        go_wp2
        go_ret
        exact ⟨⟨_, rfl⟩, hU⟩

set_option maxRecDepth 100000 in
set_option maxHeartbeats 400000 in
theorem over60 (s : ByteArray) (w : World) : Calls Tryz.prog 36 #[.string s] w fun e w' => e = .returned (.bool (decide ((60 : Int) < s.size))) ∧ w' = w := by
  go_enter Tryz.func36, Tryz.ntmps36
  go_wp2
  go_ret
  exact ⟨rfl, rfl⟩
set_option maxRecDepth 100000 in
set_option maxHeartbeats 1000000 in
theorem IndexFunc60 (ax : Option Addr) (n c : Nat) (ss : List ByteArray) (w : World) (hv : View w 1 ax n (ss.map Value.string)) (hn : n ≤ 100) :
    Calls Tryz.prog 102 #[.slice ax n c, .func (Fn.func 36) #[] #[]] w fun e w' => (∃ i : Int, e = .returned (.int .i64 i) ∧ (i < 0 → ∀ s ∈ ss, s.size ≤ 60)) ∧ Upd [] w w' := by
  have hsl : ss.length = n := by have := hv.len; simpa using this
  go_enter Tryz.func102, Tryz.ntmps102
  go_wp2
  go_loopw [8] (fun i wr => ∃ k : Nat, k ≤ n ∧ i = .int .i64 k ∧ Upd [] w wr ∧ ∀ s ∈ ss.take k, s.size ≤ 60)
    (fun i _ => n - (intOf i).toNat)
  case atStart => exact ⟨0, Nat.zero_le _, rfl, Upd.refl _ _, by simp⟩
  case round =>
    obtain ⟨k, hk, rfl, hU, hall⟩ := hrel
    by_cases hlt : k < n
    · have hk0 : ((k : Int) < n) := by omega
      obtain ⟨b, o, rfl, hrr, hbb⟩ := hv.at_ (by omega)
      obtain ⟨s, hx⟩ : ∃ s, s = ss[k]'(by omega) := ⟨_, rfl⟩
      have hcell : wr.cell? ⟨b, o + k, none⟩ = some (.string s) := (hU.cell hbb (by simp)).trans (hrr k _ (by rw [List.getElem?_map, List.getElem?_eq_getElem (by omega), hx]; rfl))
      have hstep : s.size ≤ 60 → ∀ s ∈ ss.take (k + 1), s.size ≤ 60 := fun h0 s' hs' => by
        rw [List.take_succ_eq_append_getElem (by omega)] at hs'
        rcases List.mem_append.1 hs' with h | h
        · exact hall s' h
        · simp at h; subst h; rw [← hx]; exact h0
      have HA := Lib.hid hstep
      clear hx hall hstep
      by_cases hs : 60 < s.size
      · have hs' : decide ((60 : Int) < s.size) = true := by simp; omega
        go_wp2_with (go_at_call 36; (refine (over60 s _).mono ?_); rintro e w2 ⟨rfl, rfl⟩; rw [hs'])
        go_ret
        exact ⟨⟨_, rfl, fun h => by omega⟩, hU⟩
      · have hs' : decide ((60 : Int) < s.size) = false := by simp; omega
        go_wp2_with (go_at_call 36; (refine (over60 s _).mono ?_); rintro e w2 ⟨rfl, rfl⟩; rw [hs'])
        have hA := HA.out (by omega)
        go_roundw
        case rel => exact ⟨k + 1, by omega, by go_num, hU, hA⟩
        case measure => simp [intOf]; omega
    · have hk0 : n ≤ k := by omega
      obtain rfl : k = n := by omega
      rw [List.take_of_length_le (by omega)] at hall
      go_wp2
      go_ret
      exact ⟨⟨_, rfl, fun _ => hall⟩, hU⟩
set_option maxRecDepth 100000 in
set_option maxHeartbeats 400000 in
theorem Contains60 (ax : Option Addr) (n c : Nat) (ss : List ByteArray) (w : World) (hv : View w 1 ax n (ss.map Value.string)) (hn : n ≤ 100) :
    Calls Tryz.prog 35 #[.slice ax n c, .func (Fn.func 36) #[] #[]] w fun e w' => (∃ b, e = .returned (.bool b) ∧ (b = false → ∀ s ∈ ss, s.size ≤ 60)) ∧ Upd [] w w' := by
  go_enter Tryz.func35, Tryz.ntmps35
  go_wp2_with (go_at_call 102; (refine (IndexFunc60 ax n c ss _ hv hn).mono ?_); rintro e w2 ⟨⟨i, rfl, hi⟩, hu2⟩; have HI := Lib.hid hi; clear hi)
  go_ret
  exact ⟨⟨_, rfl, fun h => HI.out (by simpa using h)⟩, hu2⟩

set_option maxRecDepth 100000 in
set_option maxHeartbeats 1000000 in
theorem wxFew (ar : Option Addr) (n c : Nat) (vs : List Value) (sss : List (List ByteArray)) (w : World) (hr : View w 1 ar n vs) (hS : StrsV w n vs sss) (hn : n ≤ 9223372036854775807) :
    Calls Tryz.prog 14 #[.slice ar n c] w fun e w' => (∃ b, e = .returned (.bool b) ∧ (b = true → Few sss)) ∧ Upd [] w w' := by
  have hlent := hS.lent
  go_enter Tryz.func14, Tryz.ntmps14
  go_wp2
  go_loopw [7] (fun i wr => ∃ k : Nat, k ≤ n ∧ i = .int .i64 k ∧ Upd [] w wr ∧ ∀ r ∈ sss.take k, r.length ≤ 12 ∧ ∀ s ∈ r, s.size ≤ 60)
    (fun i _ => n - (intOf i).toNat)
  case atStart => exact ⟨0, Nat.zero_le _, rfl, Upd.refl _ _, by simp⟩
  case round =>
    obtain ⟨k, hk, rfl, hU, hall⟩ := hrel
    by_cases hlt : k < n
    · have hk0 : ((k : Int) < n) := by omega
      obtain ⟨b, o, rfl, hrr, hbb⟩ := hr.at_ (by omega)
      obtain ⟨ax, cx, hv1, hv2⟩ := hS.at_ k hlt
      obtain ⟨ss, hx⟩ : ∃ ss, ss = sss[k]'(by omega) := ⟨_, rfl⟩
      rw [← hx] at hv1 hv2
      have hcell : wr.cell? ⟨b, o + k, none⟩ = some (.slice ax ss.length cx) := (hU.cell hbb (by simp)).trans (hrr k _ hv1)
      have hxv := hv2.upd hU (by simp)
      have hstep : (ss.length ≤ 12 ∧ ∀ s ∈ ss, s.size ≤ 60) → ∀ r ∈ sss.take (k + 1), r.length ≤ 12 ∧ ∀ s ∈ r, s.size ≤ 60 := fun h0 r hr' => by
        rw [List.take_succ_eq_append_getElem (by omega)] at hr'
        rcases List.mem_append.1 hr' with h | h
        · exact hall r h
        · simp at h; subst h; rw [← hx]; exact h0
      have HA := Lib.hid hstep
      clear hx hall hstep
      by_cases hs : 12 < ss.length
      · have hs' : ((12 : Int) < ss.length) := by omega
        go_wp2
        go_ret
        exact ⟨⟨_, rfl, fun h => by cases h⟩, hU⟩
      · have hs' : ¬ ((12 : Int) < ss.length) := by omega
        go_wp2_with (go_at_call 35; (refine (Contains60 ax _ cx ss _ hxv (by omega)).mono ?_); rintro e w2 ⟨⟨bb, rfl, hbb'⟩, hu2⟩; have HB := Lib.hid hbb'; clear hbb'; have hU2 := hU.trans hu2 (by simp); cases bb)
        · have hA := HA.out ⟨by omega, by have := HB.out; simpa using this⟩
          go_roundw
          case rel => exact ⟨k + 1, by omega, by go_num, hU2, hA⟩
          case measure => simp [intOf]; omega
        · go_ret
          exact ⟨⟨_, rfl, fun h => by cases h⟩, hU2⟩
    · have hk0 : n ≤ k := by omega
      obtain rfl : k = n := by omega
      rw [List.take_of_length_le (by omega)] at hall
      have HA := Lib.hid hall
      clear hall
      go_wp2
      go_ret
      exact ⟨⟨_, rfl, fun h => ⟨by simp at h; omega, HA.out⟩⟩, hU⟩
end Go.Proofs.YtpehfhdacgjmpaaGreat
