/- A column of strings: what it holds; Append. -/
import Derived.Test.YtpehfhdacgjmpaaGreatAwRead
namespace Go.Proofs.YtpehfhdacgjmpaaGreat
open Go Go.RowKit
theorem Row.setOff {w : World} {e : TypeId} {size : Nat} {ao : Option Addr} {n c : Nat} {xs : List Value} (ho : Row w e size ao n c xs) {p : Nat} (hne : p ∉ bk ao) (k : Nat) (u : Value) : Row (w.setCell ⟨p, k, none⟩ u) e size ao n c xs :=
  ownsRow_setCell_other ho (by cases ao <;> simp_all [Value.ownBlock, eq_comm]) _
/-- how many bytes texts hold -/
def tot (ts : List (List Value)) : Nat := (ts.flatMap id).length
theorem tot_snoc (ts : List (List Value)) (t : List Value) : tot (ts ++ [t]) = tot ts + t.length := by simp [tot]
/-- where each text starts and ends -/
def posOf : Nat → List (List Value) → List Value
  | _, [] => []
  | s, t :: ts => .int .i64 (s : Nat) :: .int .i64 (s + t.length : Nat) :: posOf (s + t.length) ts
theorem posOf_snoc (s : Nat) (ts : List (List Value)) (t : List Value) : posOf s (ts ++ [t]) = posOf s ts ++ [.int .i64 (s + tot ts : Nat), .int .i64 (s + tot ts + t.length : Nat)] := by
  induction ts generalizing s with
  | nil => simp [posOf, tot]
  | cons a ts ih =>
    simp only [List.cons_append, posOf, ih]
    simp [tot, Nat.add_assoc]
theorem posOf_len (s : Nat) (ts : List (List Value)) : (posOf s ts).length = ts.length * 2 := by
  induction ts generalizing s with
  | nil => rfl
  | cons a ts ih => simp only [posOf, List.length_cons, ih]; omega
/-- the variable p holds the column of the texts ts; F: the blocks that are its own -/
structure StrAt (w : World) (p : Nat) (ab : Option Addr) (cb : Nat) (ap : Option Addr) (cp : Nat) (ts : List (List Value)) : Prop where
  blk : w.heap[p]? = some (.cells #[.slice ab (tot ts) cb, .slice ap ts.length cp] 90 (0, 0))
  buf : Row w 5 1 ab (tot ts) cb (ts.flatMap id)
  pos : Row w 434 2 ap ts.length cp (posOf 0 ts)
  nb : p ∉ bk ab
  np : p ∉ bk ap
  sep : ∀ x, x ∈ bk ab → x ∉ bk ap
theorem StrAt.kept {w w1 : World} {p : Nat} {ab : Option Addr} {cb : Nat} {ap : Option Addr} {cp : Nat} {ts : List (List Value)} (h : StrAt w p ab cb ap cp ts) {G : List Nat} (hu : Upd G w w1) (hp : p ∉ G) (hb : ∀ x, x ∈ bk ab → x ∉ G) (hq : ∀ x, x ∈ bk ap → x ∉ G) : StrAt w1 p ab cb ap cp ts :=
  ⟨hu.at h.blk hp, h.buf.upd hu hb, h.pos.upd hu hq, h.nb, h.np, h.sep⟩
def StrCol (w : World) (p : Nat) (F : List Nat) (ts : List (List Value)) : Prop :=
  ∃ ab cb ap cp, StrAt w p ab cb ap cp ts ∧ p ∈ F ∧ (∀ x, x ∈ bk ab → x ∈ F) ∧ (∀ x, x ∈ bk ap → x ∈ F) ∧ ∀ x, x ∈ F → x < w.heap.size
theorem StrCol.lt {w : World} {p : Nat} {F : List Nat} {ts : List (List Value)} (h : StrCol w p F ts) : ∀ x, x ∈ F → x < w.heap.size := by
  obtain ⟨ab, cb, ap, cp, _, _, _, _, h⟩ := h; exact h
theorem StrCol.kept {w w1 : World} {p : Nat} {F G : List Nat} {ts : List (List Value)} (h : StrCol w p F ts) (hu : Upd G w w1) (hG : ∀ x, x ∈ F → x ∉ G) : StrCol w1 p F ts := by
  obtain ⟨ab, cb, ap, cp, h1, h2, h3, h4, h5⟩ := h
  exact ⟨ab, cb, ap, cp, h1.kept hu (hG p h2) (fun x hx => hG x (h3 x hx)) (fun x hx => hG x (h4 x hx)), h2, h3, h4, fun x hx => Nat.lt_of_lt_of_le (h5 x hx) hu.size⟩
/-- what was the column's own still is, or is new -/
def Grows (B : Nat) (F F' : List Nat) : Prop := ∀ x, x ∈ F' → x ∈ F ∨ B ≤ x

theorem Tryz.info434 : (Tryz.prog.info? 434).map (fun i => (i.zero, i.size, i.bytes)) = some (some (.agg #[.int .i64 0, .int .i64 0]), 2, 16) := by kernel_rfl
set_option maxRecDepth 100000 in
set_option maxHeartbeats 1000000 in
theorem ColStr_Append (p : Nat) (F : List Nat) (ts : List (List Value)) (s : ByteArray) (w : World) (h : StrCol w p F ts) (hn : ts.length ≤ 100000) (ht : tot ts ≤ 10000000) (hs : s.size ≤ 100000) :
    Calls Tryz.prog 104 #[.pointer (some ⟨p, 0, none⟩), .string s] w fun e w' => e = .returned (.tuple #[]) ∧ ∃ F', StrCol w' p F' (ts ++ [byteCells s]) ∧ Upd F w w' ∧ Grows w.heap.size F F' := by
  obtain ⟨ab, cb, ap, cp, hA, hpF, hbF, hqF, hlt⟩ := h
  have hl : (byteCells s).length = s.size := by simp [byteCells]
  have c0 : w.cell? ⟨p, 0, none⟩ = some (.slice ab (tot ts) cb) := by simp [World.cell?, hA.blk]
  have c1 : w.cell? ⟨p, 1, none⟩ = some (.slice ap ts.length cp) := by simp [World.cell?, hA.blk]
  have f0 : w.frozen? ⟨p, 0, none⟩ = false := by simp [World.frozen?, hA.blk]
  go_enter Tryz.func104, Tryz.ntmps104
  go_wp2_with (first
    | (at_builtin; refine wpList_app _ rfl (.tmp 15) (.tmp 16) 29 9 rfl 5 (.int .u8 0) 1 1 Tryz.underlying29 Tryz.info5 rfl (by decide) hA.buf rfl (Src.ofString _ Tryz.underlying9 s) rfl (by decide) (by omega) ?_; intro ab1 cb1 w1 hown1 hupd1 hin1; have hb1 := hupd1.at hA.blk hA.nb; have d0 : w1.cell? ⟨p, 0, none⟩ = some (.slice ab (tot ts) cb) := (by simp [World.cell?, hb1]); have d1 : w1.cell? ⟨p, 1, none⟩ = some (.slice ap ts.length cp) := (by simp [World.cell?, hb1]); have g0 : w1.frozen? ⟨p, 0, none⟩ = false := (by simp [World.frozen?, hb1]); have hP := (hA.pos.upd hupd1 (fun x hx hx' => hA.sep x hx' hx)).setOther hA.np (.slice ab1 (tot ts + s.size) cb1))
    | (at_builtin; apply stopHere))
  show wpList _ _ _ _ _ _
  have hsz : (w1.setCell ⟨p, 0, none⟩ (.slice ab1 (tot ts + s.size) cb1)).heap.size = w1.heap.size := World.size_setCell ..
  have hb2 : (w1.setCell ⟨p, 0, none⟩ (.slice ab1 (tot ts + s.size) cb1)).heap[p]? = some (.cells #[.slice ab1 (tot ts + s.size) cb1, .slice ap ts.length cp] 90 (0, 0)) := by
    rw [heap_setCell_same w1 p 0 _ _ _ hb1]; simp
  have hpl := lt_of_block hA.blk
  have hnb1 : p ∉ bk ab1 := fun hx => (hin1 p hx).elim hA.nb (fun h => by omega)
  have hB2 : Row (w1.setCell ⟨p, 0, none⟩ (.slice ab1 (tot ts + s.size) cb1)) 5 1 ab1 (tot ts + s.size) cb1 (ts.flatMap id ++ byteCells s) := hown1.setOther hnb1 _
  have hu2 : Upd (p :: bk ab) w (w1.setCell ⟨p, 0, none⟩ (.slice ab1 (tot ts + s.size) cb1)) := (hupd1.mono (by simp +contextual)).setCell _ (by simp)
  rw [← hsz]
  generalize w1.setCell ⟨p, 0, none⟩ (.slice ab1 (tot ts + s.size) cb1) = W2 at *
  clear d0 d1 g0 hb1 hown1
  refine wpList_app1 _ rfl (.tmp 29) (.tmp 33) 88 rfl 434 _ 2 16 Tryz.underlying88 Tryz.info434 rfl (by decide) hP rfl [.int .i64 (tot ts : Nat), .int .i64 ((tot ts : Int) + (s.size : Int))] rfl rfl rfl (by simp [Value.oneCell']) (by decide) (by omega) ?_
  intro ap1 cp1 w2 hown2 hupd2 hin2
  have hb3 := hupd2.at hb2 hA.np
  have e1 : w2.cell? ⟨p, 1, none⟩ = some (.slice ap ts.length cp) := by simp [World.cell?, hb3]
  have g1 : w2.frozen? ⟨p, 1, none⟩ = false := by simp [World.frozen?, hb3]
  go_wp2
  go_end0
  have hnp1 : p ∉ bk ap1 := fun hx => (hin2 p hx).elim hA.np (fun h => by have := hu2.size; omega)
  have hsep : ∀ x, x ∈ bk ab1 → x ∉ bk ap := fun x hx hx' => by
    rcases hin1 x hx with h | h
    · exact hA.sep x h hx'
    · have := hlt x (hqF x hx'); omega
  have hblt := hB2.lt
  have hsep1 : ∀ x, x ∈ bk ab1 → x ∉ bk ap1 := fun x hx hx' => by
    rcases hin2 x hx' with h | h
    · exact hsep x hx h
    · have := hblt x hx; omega
  have hu3 : Upd (p :: bk ap) W2 (w2.setCell ⟨p, 1, none⟩ (.slice ap1 (ts.length + 1) cp1)) := (hupd2.mono (by simp +contextual)).setCell _ (by simp)
  have hF : Upd F w (w2.setCell ⟨p, 1, none⟩ (.slice ap1 (ts.length + 1) cp1)) := (hu2.mono (fun x hx => .inl (by
    rcases List.mem_cons.1 hx with h | h
    · rw [h]; exact hpF
    · exact hbF x h))).trans hu3 (fun x hx => .inl (by
    rcases List.mem_cons.1 hx with h | h
    · rw [h]; exact hpF
    · exact hqF x h))
  have htot : tot (ts ++ [byteCells s]) = tot ts + s.size := by rw [tot_snoc, hl]
  have hlen : (ts ++ [byteCells s]).length = ts.length + 1 := by simp
  have hR2 := (hB2.upd hupd2 hsep).setOff hnb1 1 (.slice ap1 (ts.length + 1) cp1)
  have hQ2 := hown2.setOff hnp1 1 (.slice ap1 (ts.length + 1) cp1)
  refine ⟨rfl, p :: (bk ab1 ++ bk ap1), ⟨ab1, cb1, ap1, cp1, ⟨?_, ?_, ?_, hnb1, hnp1, hsep1⟩, by simp, fun x hx => by simp [hx], fun x hx => by simp [hx], ?_⟩, hF, ?_⟩
  · rw [heap_setCell_same w2 p 1 _ _ _ hb3, htot, hlen]; simp
  · rw [htot, List.flatMap_append]
    simpa using hR2
  · rw [hlen, posOf_snoc, hl, Nat.zero_add]
    exact hQ2
  · intro x hx
    rcases List.mem_cons.1 hx with h | h
    · rw [h]; exact Nat.lt_of_lt_of_le hpl hF.size
    · rcases List.mem_append.1 h with h | h
      · exact hR2.lt x h
      · exact hQ2.lt x h
  · intro x hx
    rcases List.mem_cons.1 hx with h | h
    · exact .inl (by rw [h]; exact hpF)
    · rcases List.mem_append.1 h with h | h
      · exact (hin1 x h).imp (hbF x) id
      · exact (hin2 x h).imp (hqF x) (fun h => by have := hu2.size; omega)

theorem tot_take_le (ts : List (List Value)) (k : Nat) : tot (ts.take k) ≤ tot ts := by
  have h : ts = ts.take k ++ ts.drop k := (List.take_append_drop k ts).symm
  have : tot (ts.take k ++ ts.drop k) = tot (ts.take k) + tot (ts.drop k) := by simp only [tot, List.flatMap_append, List.length_append]
  rw [← h] at this
  omega
theorem tot_le (ss : List ByteArray) (m : Nat) (h : ∀ s ∈ ss, s.size ≤ m) : tot (ss.map byteCells) ≤ ss.length * m := by
  induction ss with
  | nil => simp [tot]
  | cons s ss ih =>
    have h1 := ih (fun x hx => h x (by simp [hx]))
    have h2 := h s (by simp)
    have : tot ((s :: ss).map byteCells) = s.size + tot (ss.map byteCells) := by simp [tot, byteCells]
    rw [this, List.length_cons, Nat.succ_mul]
    omega
set_option maxRecDepth 100000 in
set_option maxHeartbeats 1000000 in
theorem ColStr_AppendArr (p : Nat) (F : List Nat) (ts : List (List Value)) (av : Option Addr) (n c : Nat) (ss : List ByteArray) (w : World) (h : StrCol w p F ts) (hv : View w 1 av n (ss.map Value.string)) (hav : 0 < n → ∀ x, x ∈ bk av → x ∉ F) (hn : n ≤ 100) (hs : ∀ s ∈ ss, s.size ≤ 127) (hts : ts.length ≤ 10000) (htt : tot ts ≤ 1000000) :
    Calls Tryz.prog 45 #[.pointer (some ⟨p, 0, none⟩), .slice av n c] w fun e w' => e = .returned (.tuple #[]) ∧ ∃ F', StrCol w' p F' (ts ++ ss.map byteCells) ∧ Upd F w w' ∧ Grows w.heap.size F F' := by
  have hsl : ss.length = n := by have := hv.len; simpa using this
  go_enter Tryz.func45, Tryz.ntmps45
  go_wp2
  go_loopw [8] (fun i wr => ∃ (k : Nat) (F' : List Nat), k ≤ n ∧ i = .int .i64 k ∧ StrCol wr p F' (ts ++ (ss.take k).map byteCells) ∧ Upd F w wr ∧ Grows w.heap.size F F')
    (fun i _ => n - (intOf i).toNat)
  case atStart => exact ⟨0, F, Nat.zero_le _, rfl, by simpa using h, Upd.refl _ _, fun x hx => .inl hx⟩
  case round =>
    obtain ⟨k, F', hk, rfl, hC, hU, hG⟩ := hrel
    by_cases hlt : k < n
    · have hk0 : ((k : Int) < n) := by omega
      obtain ⟨b, o, rfl, hrr, hbb⟩ := hv.at_ (by omega)
      have hbn : b ∉ F := hav (by omega) b (by simp)
      obtain ⟨s, hx⟩ : ∃ s, s = ss[k]'(by omega) := ⟨_, rfl⟩
      have hcell : wr.cell? ⟨b, o + k, none⟩ = some (.string s) := by
        rw [hU.cell hbb hbn]
        exact hrr k _ (by rw [List.getElem?_map, List.getElem?_eq_getElem (by omega), hx]; rfl)
      have hss : s.size ≤ 127 := hs s (by rw [hx]; exact List.getElem_mem _)
      have hb1 : (ts ++ (ss.take k).map byteCells).length ≤ 100000 := by simp; omega
      have hb2 : tot (ts ++ (ss.take k).map byteCells) ≤ 10000000 := by
        have h1 := tot_le (ss.take k) 127 (fun s hs' => hs s (List.mem_of_mem_take hs'))
        have h2 : tot (ts ++ (ss.take k).map byteCells) = tot ts + tot ((ss.take k).map byteCells) := by simp only [tot, List.flatMap_append, List.length_append]
        have h3 : (ss.take k).length ≤ 100 := by rw [List.length_take]; omega
        have h4 := Nat.mul_le_mul_right 127 h3
        omega
      have HX := Lib.hid hx
      clear hx
      go_wp2_with (go_at_call 104; (with_reducible refine (ColStr_Append p F' _ s _ hC hb1 hb2 (by omega)).mono ?_); rintro e w2 ⟨rfl, F2, hC2, hU2, hG2⟩)
      have hUx : Upd F w w2 := hU.trans hU2 hG
      have hGx : Grows w.heap.size F F2 := fun x hx => (hG2 x hx).elim (hG x) (fun h => .inr (Nat.le_trans hU.size h))
      have hCx : StrCol w2 p F2 (ts ++ (ss.take (k + 1)).map byteCells) := by
        rw [List.take_succ_eq_append_getElem (by omega), ← HX.out, List.map_append, ← List.append_assoc]
        exact hC2
      clear hC2 hU2 hG2 hC hU hG hb1 hb2
      go_roundw
      case rel => exact ⟨k + 1, F2, by omega, by go_num, hCx, hUx, hGx⟩
      case measure => simp [intOf]; omega
    · have hk0 : n ≤ k := by omega
      obtain rfl : k = n := by omega
      rw [List.take_of_length_le (by omega)] at hC
      go_wp2
      go_end0
      exact ⟨rfl, F', hC, hU, hG⟩
end Go.Proofs.YtpehfhdacgjmpaaGreat
