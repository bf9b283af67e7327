/- The column of bools: EncodeColumn. -/
import Derived.Test.YtfbohkbpgfnceaaGreatDoorK11
namespace Go.Proofs.YtfbohkbpgfnceaaGreatDoor
set_option linter.unusedVariables false
set_option linter.unusedSimpArgs false
open Go Go.RowKit
set_option maxRecDepth 100000 in
set_option maxHeartbeats 400000 in
theorem boolToByte (b : Bool) (w : World) : Calls Tryz.prog 382 #[.bool b] w fun e w' => e = .returned (bitV b) ∧ w' = w := by
  cases b <;> (go_enter Tryz.func382, Tryz.ntmps382) <;> go_wp2 <;> (go_ret; exact ⟨rfl, rfl⟩)
set_option maxRecDepth 100000 in
set_option maxHeartbeats 1000000 in
theorem ColBool_EncodeColumn (ac : Option Addr) (n cc : Nat) (vs : List Bool) (bp : Nat) (ao : Option Addr) (m cp : Nat) (bs : List Value) (w : World) (hc : View w 1 ac n (vs.map Value.bool)) (hb : Hold w bp 46 5 1 ao m cp bs)
    (hap : Apart ac bp ao) (h0 : 0 < n) (hn : n ≤ 1000000) (hm : m ≤ 100000000) :
    Calls Tryz.prog 376 #[.slice ac n cc, .pointer (some ⟨bp, 0, none⟩)] w fun e w' => e = .returned (.tuple #[]) ∧ Grew w w' bp 46 5 1 ao (m + n) (bs ++ vs.map bitV) := by
  have hvl : vs.length = n := by have := hc.len; simpa using this
  have hbl := hb.own.len
  have hc0 := hb.cell
  go_enter Tryz.func376, Tryz.ntmps376
  go_wp2_with (at_builtin; refine wpList_zeros _ rfl _ _ 26 3 rfl 5 (.int .u8 0) 1 1 .i64 Tryz.underlying26 Tryz.underlying3 Tryz.info5 rfl (by decide) (by simp [Value.cells, Value.oneCell']) hb.own rfl n (by omega) rfl (by omega) (by decide) (by omega) ?_; intro ao1 c1 w1 hown1 hupd1 hin1; have hc1 := hb.cell1 hupd1; have hf1 := hb.free1 hupd1; have hH1 := hb.after hown1 hupd1 hin1; obtain ⟨g, hg⟩ := hH1.own.head (by omega); have hcapx := hown1.cap.1; have hne : ¬ c1 = m := (by omega); have hle : (m : Int) ≤ (m : Int) + n := (by omega))
  subst hg
  have hU1 := hb.upd hupd1 (.slice (some ⟨g, 0, none⟩) (m + n) c1)
  clear hown1 hupd1 hc1 hf1 hne hle
  generalize w1.setCell ⟨bp, 0, none⟩ (.slice (some ⟨g, 0, none⟩) (m + n) c1) = w2 at *
  rw [show (Value.int .u8 0).cells = #[Value.int .u8 0] from rfl, zeroCells1] at hH1
  go_loopw [31] (fun i wr => ∃ k : Nat, k ≤ n ∧ i = .int .i64 k ∧ Hold wr bp 46 5 1 (some ⟨g, 0, none⟩) (m + n) c1 (bs ++ fill bitV (.int .u8 0) vs n k) ∧ Upd (bp :: bk ao) w wr)
    (fun i _ => n - (intOf i).toNat)
  case atStart => exact ⟨0, Nat.zero_le _, rfl, by simpa [fill] using hH1, hU1⟩
  case round =>
    obtain ⟨k, hk, rfl, hH, hU⟩ := hrel
    by_cases hlt : k < n
    · have hk0 : ((k : Int) < n) := by omega
      obtain ⟨b, o, rfl, hr, hbb⟩ := hc.at_ (by omega)
      have hbn : b ∉ bp :: bk ao := hap.not b (by simp)
      have hcell : wr.cell? ⟨b, o + k, none⟩ = some (.bool (vs[k]'(by omega))) := (hU.cell hbb hbn).trans (hr k _ (by simp [hvl, hlt]))
      obtain ⟨x, hx⟩ : ∃ x, x = vs[k]'(by omega) := ⟨_, rfl⟩
      rw [← hx] at hcell
      obtain ⟨uo, huo⟩ : ∃ u, wr.cell? ⟨g, m + k, none⟩ = some u := by
        obtain ⟨u, _, hu⟩ := hH.own.cell' (m + k) (by omega)
        exact ⟨u, hu⟩
      have hbyte := boolToByte x
      obtain ⟨y, hy⟩ : ∃ y, bitV x = .int .u8 y := ⟨_, rfl⟩
      rw [hy] at hbyte
      have hfo := hH.own.free (m + k)
      have hst := hH.own.stored1 (m + k) (Value.int .u8 y)
      have hls : (bs ++ fill bitV (.int .u8 0) vs n k).set (m + k) (Value.int .u8 y) = bs ++ fill bitV (.int .u8 0) vs n (k + 1) := by
        have h1 := fill_step bitV (.int .u8 0) vs n k hlt hvl
        rw [← hx, hy] at h1
        rw [List.set_append_right _ _ (by omega), show m + k - bs.length = k by omega, h1]
      rw [hls] at hst
      have hux : Upd [g] wr (wr.setCell ⟨g, m + k, none⟩ (Value.int .u8 y)) := (Upd.refl _ _).setCell _ (by simp)
      have hH' : Hold (wr.setCell ⟨g, m + k, none⟩ (Value.int .u8 y)) bp 46 5 1 (some ⟨g, 0, none⟩) (m + n) c1 (bs ++ fill bitV (.int .u8 0) vs n (k + 1)) := ⟨hux.at hH.blk (fun h => hH.ne (by simpa using h)), hst, hH.ne⟩
      have hU' : Upd (bp :: bk ao) w (wr.setCell ⟨g, m + k, none⟩ (Value.int .u8 y)) := hU.trans hux (fun y hy => by
        simp at hy; subst hy
        rcases hin1 y (by simp) with h | h
        · exact .inl (List.mem_cons_of_mem _ h)
        · exact .inr h)
      clear hx hy hst hls hux hH hU
      go_wp2_with (go_at_call 382; (refine (hbyte _).mono ?_); rintro e w3 ⟨rfl, rfl⟩)
      go_roundw
      case rel => exact ⟨k + 1, by omega, by go_num, hH', hU'⟩
      case measure => simp [intOf]; omega
    · have hk0 : ¬ ((k : Int) < n) := by omega
      obtain rfl : k = n := by omega
      go_wp2
      go_end0
      rw [fill_end _ _ _ _ hvl] at hH
      exact ⟨rfl, some ⟨g, 0, none⟩, c1, hH, hU, hin1⟩
end Go.Proofs.YtfbohkbpgfnceaaGreatDoor
