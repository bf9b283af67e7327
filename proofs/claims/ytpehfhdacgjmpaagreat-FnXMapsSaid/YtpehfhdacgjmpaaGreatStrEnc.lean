/- A column of strings: EncodeColumn (texts of fewer than 128 bytes). -/
import Derived.Test.YtpehfhdacgjmpaaGreatStrCol
namespace Go.Proofs.YtpehfhdacgjmpaaGreat
open Go Go.RowKit
set_option maxRecDepth 100000 in
set_option maxHeartbeats 400000 in
theorem PutUvarint1 (g x : Nat) (cur : Array Value) (w : World) (h : w.heap[g]? = some (.cells cur 485 (0, 0))) (hc : cur.size = 10) (hx : x < 128) :
    Calls Tryz.prog 194 #[.slice (some ⟨g, 0, none⟩) 10 10, .int .u64 x] w fun e w' => e = .returned (.int .i64 1) ∧ w'.heap[g]? = some (.cells (cur.setIfInBounds 0 (.int .u8 x)) 485 (0, 0)) ∧ Upd [g] w w' := by
  obtain ⟨v, hv⟩ : ∃ v, cur[0]? = some v := ⟨cur[0]'(by omega), by simp⟩
  have c0 : w.cell? ⟨g, 0, none⟩ = some v := by simp [World.cell?, h, hv]
  have f0 : w.frozen? ⟨g, 0, none⟩ = false := by simp [World.frozen?, h]
  have hx' : ¬ ((128 : Int) ≤ x) := by omega
  go_enter Tryz.func194, Tryz.ntmps194
  go_wp2
  go_loopw [1, 5] (fun a i wr => a = .int .u64 x ∧ i = .int .i64 0 ∧ wr = w) (fun _ _ _ => 0)
  case atStart => exact ⟨rfl, rfl, rfl⟩
  case round =>
    obtain ⟨rfl, rfl, hw⟩ := hrel
    go_wp2
    go_ret
    exact ⟨rfl, heap_setCell_same _ _ _ _ _ _ h, (Upd.refl _ _).setCell _ (by simp)⟩
/-- x[lo:hi] of whatever slice -/
def cutAddr (a : Option Addr) (lo cp : Nat) : Option Addr := if cp = lo then a else a.map (·.add lo)
theorem yields_cut {P : Program} {ops : Array Oper} {S : World → Prop} {o : Oper} {a : Act} (hg : o.guard = none) (T e : TypeId) (x l h : Operand) (ho : o.op = .slice T x (some l) (some h) none) (hu : P.underlying T = some (.slice e)) (hsz : (P.info? e).map (·.size) = some 1) (ad : Option Addr) (n c : Nat) (hx : a.eval x = .slice ad n c)
    (L H : Int) {kl kh : IntKind} (lo len : Nat) (hl : a.eval l = .int kl L) (hh : a.eval h = .int kh H) (hL : L = lo) (hH : H = (lo : Int) + len) (h1 : lo + len ≤ c) :
    YieldsIf P ops S o (.slice (cutAddr ad lo c) len (c - lo)) a := by
  subst hL hH
  have he : P.elem T = e := by simp [Program.elem, hu]
  obtain ⟨i, hi1, hi2⟩ := Option.map_eq_some_iff.1 hsz
  refine .inl ⟨by simp [Region.wanted, hg], fun w _ => ?_⟩
  have hr := run_slice_lh (P := P) (w := w) T ad n c (by rw [he]; exact hu) kl kh (lo : Int) ((lo : Int) + len) (by omega) (by omega) (by omega)
  have hr2 : (Instr.slice T (.slice ad n c) (some (.int kl lo)) (some (.int kh ((lo : Int) + len))) none).run P w = .ok (.slice (cutAddr ad lo c) len (c - lo)) w := by
    rw [hr, he]
    have e1 : ((lo : Int) + len).toNat = lo + len := by omega
    simp [sizeOf, typeInfo, hi1, hi2, Result.andThen, sliced, cutAddr, e1]
  unfold execOp
  simp only [ho, hx, Option.map_some, hl, hh, Option.map_none]
  simp only [Sem.run_bind, run_sliceAt_slice (P := P) w T _ _ _ _ (by simp only [Program.elem, hu]), hr2, Result.andThen_ok, Sem.run_pure]
/-- a text as it is encoded: its length, its bytes -/
def encT (t : List Value) : List Value := .int .u8 (t.length : Nat) :: t
def encS (ts : List (List Value)) : List Value := ts.flatMap encT
theorem encS_take_succ (ts : List (List Value)) (k : Nat) (h : k < ts.length) : encS (ts.take (k + 1)) = encS (ts.take k) ++ encT ts[k] := flatMap_take_succ _ _ _ h
theorem encS_len (ts : List (List Value)) : (encS ts).length = ts.length + tot ts := by
  induction ts with
  | nil => rfl
  | cons t ts ih =>
    have : encS (t :: ts) = encT t ++ encS ts := rfl
    rw [this, List.length_append, ih]
    have h2 : tot (t :: ts) = t.length + tot ts := by simp [tot]
    rw [h2]; simp [encT]; omega
theorem tot_take_succ (ts : List (List Value)) (k : Nat) (h : k < ts.length) : tot (ts.take (k + 1)) = tot (ts.take k) + (ts[k]).length := by
  rw [List.take_succ_eq_append_getElem h, tot_snoc]
theorem posOf_get (s : Nat) (ts : List (List Value)) (k : Nat) (h : k < ts.length) : (posOf s ts)[k * 2]? = some (.int .i64 (s + tot (ts.take k) : Nat)) ∧ (posOf s ts)[k * 2 + 1]? = some (.int .i64 (s + tot (ts.take k) + (ts[k]).length : Nat)) := by
  induction ts generalizing s k with
  | nil => simp at h
  | cons t ts ih =>
    cases k with
    | zero => simp [posOf, tot]
    | succ k =>
      have h1 := ih (s + t.length) k (by simpa using h)
      have h2 : tot ((t :: ts).take (k + 1)) = t.length + tot (ts.take k) := by simp [tot]
      simp only [posOf, h2, List.getElem_cons_succ]
      rw [show (k + 1) * 2 = k * 2 + 1 + 1 by omega, show k * 2 + 1 + 1 + 1 = (k * 2 + 1) + 1 + 1 by omega]
      simp only [List.getElem?_cons_succ]
      rw [h1.1, h1.2]
      simp only [Nat.add_assoc, and_self]
theorem flat_mid (ts : List (List Value)) (k : Nat) (h : k < ts.length) (j : Nat) (v : Value) (hj : (ts[k])[j]? = some v) : (ts.flatMap id)[tot (ts.take k) + j]? = some v := by
  have h0 : ts = ts.take k ++ ts[k] :: ts.drop (k + 1) := by rw [← List.drop_eq_getElem_cons h, List.take_append_drop]
  have h1 : ts.flatMap id = (ts.take k).flatMap id ++ (ts[k] ++ (ts.drop (k + 1)).flatMap id) := (congrArg (fun l => l.flatMap id) h0).trans (by simp only [List.flatMap_append, List.flatMap_cons, id])
  rw [h1, List.getElem?_append_right (by unfold tot; omega)]
  unfold tot
  rw [Nat.add_sub_cancel_left, List.getElem?_append_left (List.getElem?_eq_some_iff.1 hj).1, hj]

set_option maxRecDepth 100000 in
set_option maxHeartbeats 1000000 in
theorem ColStr_EncodeColumn (ab : Option Addr) (cb : Nat) (ap : Option Addr) (cp : Nat) (ts : List (List Value)) (bp : Nat) (ao : Option Addr) (m cc : Nat) (bs : List Value) (w : World)
    (hvb : View w 1 ab (tot ts) (ts.flatMap id)) (hvp : View w 2 ap ts.length (posOf 0 ts)) (hcb : tot ts ≤ cb) (hb : Hold w bp 210 5 1 ao m cc bs)
    (hnb : ∀ x, x ∈ bk ab → x ∉ bp :: bk ao) (hnp : ∀ x, x ∈ bk ap → x ∉ bp :: bk ao) (h1 : ∀ t ∈ ts, t.length < 128 ∧ ∀ u ∈ t, u.oneCell' = true) (hn : ts.length ≤ 10000) (hm : m ≤ 10000000) (ht : tot ts ≤ 10000000) :
    Calls Tryz.prog 186 #[.agg #[.slice ab (tot ts) cb, .slice ap ts.length cp], .pointer (some ⟨bp, 0, none⟩)] w fun e w' => e = .returned (.tuple #[]) ∧ Grew w w' bp 210 5 1 ao (m + (encS ts).length) (bs ++ encS ts) := by
  go_enter Tryz.func186, Tryz.ntmps186
  go_wp2
  obtain ⟨k1, u1, s1⟩ := alloc_facts w (Obj.cells #[.slice ab (tot ts) cb, .slice ap ts.length cp] 90)
  obtain ⟨k2, u2, s2⟩ := alloc_facts (w.alloc (Obj.cells #[.slice ab (tot ts) cb, .slice ap ts.length cp] 90)) (Obj.cells #[.int .u8 0, .int .u8 0, .int .u8 0, .int .u8 0, .int .u8 0, .int .u8 0, .int .u8 0, .int .u8 0, .int .u8 0, .int .u8 0] 485)
  have u12 := u1.trans u2 (fun _ h => .inl h)
  have k1' := u2.at k1 (by simp)
  rw [s1] at k2 s2
  generalize (w.alloc (Obj.cells #[.slice ab (tot ts) cb, .slice ap ts.length cp] 90)).alloc (Obj.cells #[.int .u8 0, .int .u8 0, .int .u8 0, .int .u8 0, .int .u8 0, .int .u8 0, .int .u8 0, .int .u8 0, .int .u8 0, .int .u8 0] 485) = W at *
  have hb0 := hb.kept u12 (by simp) (by simp)
  have hvb0 := hvb.upd u12 (by simp)
  have hvp0 := hvp.upd u12 (by simp)
  have hbl := hb.lt
  have hbo := hb.own.lt
  clear k1 u1 u2 s1
  go_loopw [12] (fun i wr => ∃ (k : Nat) (ao' : Option Addr) (c' : Nat) (cur : Array Value), k ≤ ts.length ∧ i = .int .i64 k ∧ Hold wr bp 210 5 1 ao' (m + (encS (ts.take k)).length) c' (bs ++ encS (ts.take k)) ∧ wr.heap[w.heap.size]? = some (.cells #[.slice ab (tot ts) cb, .slice ap ts.length cp] 90 (0, 0)) ∧
      wr.heap[w.heap.size + 1]? = some (.cells cur 485 (0, 0)) ∧ cur.size = 10 ∧ Upd (bp :: bk ao) w wr ∧ In (bk ao) W.heap.size ao')
    (fun i _ => ts.length - (intOf i).toNat)
  case atStart => exact ⟨0, ao, cc, _, Nat.zero_le _, rfl, by simpa [encS] using hb0, k1', k2, rfl, u12.mono (by simp), In.self (fun _ h => h)⟩
  case round =>
    obtain ⟨k, ao', c', cur, hk, rfl, hH, hB, hA, hcs, hU, hI⟩ := hrel
    by_cases hlt : k < ts.length
    · have hk0 : ((k : Int) < ts.length) := by omega
      obtain ⟨bq, oq, rfl, hrq, hbq⟩ := hvp.at_ (by omega)
      have hqn := hnp bq (by simp)
      obtain ⟨p0, p1⟩ := posOf_get 0 ts k hlt
      have d0 : wr.cell? ⟨bq, oq + k * 2, none⟩ = some (.int .i64 (tot (ts.take k) : Nat)) := by rw [hU.cell hbq hqn]; simpa using hrq _ _ p0
      have d1 : wr.cell? ⟨bq, oq + k * 2 + 1, none⟩ = some (.int .i64 (tot (ts.take k) + (ts[k]).length : Nat)) := by rw [hU.cell hbq hqn, Nat.add_assoc]; simpa using hrq _ _ p1
      have hSL : tot (ts.take k) + (ts[k]).length ≤ tot ts := by rw [← tot_take_succ ts k hlt]; exact tot_take_le ts (k + 1)
      have hL := (h1 ts[k] (List.getElem_mem _)).1
      obtain ⟨t, htk⟩ : ∃ t, t = ts[k] := ⟨_, rfl⟩
      rw [← htk] at d1 hSL hL
      obtain ⟨L, hLL⟩ : ∃ L, L = t.length := ⟨_, rfl⟩
      obtain ⟨S, hSS⟩ : ∃ S, S = tot (ts.take k) := ⟨_, rfl⟩
      rw [← hLL, ← hSS] at d1 hSL
      rw [← hSS] at d0
      rw [← hLL] at hL
      have HT := Lib.hid htk
      have HL := Lib.hid hLL
      have HS := Lib.hid hSS
      clear htk hLL hSS p0 p1
      have hw1 : IntKind.i64.wrap ((S : Int) + L - S) = L := by rw [IntWalk.i64_in _ (by omega)]; omega
      have hbl' := hH.lt
      have hA1 : (wr.alloc (Obj.cells #[.int .i64 (S : Nat), .int .i64 ((S : Int) + L)] 434)).heap[w.heap.size + 1]? = some (.cells cur 485 (0, 0)) := ((Upd.refl [] wr).alloc _).at hA (by simp)
      go_wp2_with (go_at_call 194; (with_reducible refine (PutUvarint1 (w.heap.size + 1) L cur _ hA1 hcs hL).mono ?_); rintro e w5 ⟨rfl, hA5, hv5⟩)
      obtain ⟨k3, u3, s3⟩ := alloc_facts wr (Obj.cells #[.int .i64 (S : Nat), .int .i64 ((S : Int) + L)] 434)
      have hlA := lt_of_block hA
      have u5 : Upd [w.heap.size + 1] wr w5 := (u3.mono (by simp)).trans hv5 (by simp)
      have n0 : w5.cell? ⟨wr.heap.size, 0, none⟩ = some (.int .i64 (S : Nat)) := hv5.cell1 (by simp only [World.cell?, k3]; rfl) (by simp; omega)
      have n1 : w5.cell? ⟨wr.heap.size, 1, none⟩ = some (.int .i64 ((S : Int) + L)) := hv5.cell1 (by simp only [World.cell?, k3]; rfl) (by simp; omega)
      have hs5 : wr.heap.size < w5.heap.size := by have := hv5.size; omega
      clear k3 u3 s3 hA1 hv5
      have hlt1 := hH.own.lt
      have hnI : ∀ y, y = w.heap.size ∨ y = w.heap.size + 1 → y ∉ bp :: bk ao' := fun y hy hm' => by
        rcases List.mem_cons.1 hm' with h | h
        · omega
        · rcases hI y h with h | h
          · have := hbo y h; omega
          · omega
      have hH5 : Hold w5 bp 210 5 1 ao' (m + (encS (ts.take k)).length) c' (bs ++ encS (ts.take k)) := hH.kept u5 (by simp; omega) (fun x hx hx' => by simp at hx'; exact hnI x (.inr hx') (List.mem_cons_of_mem _ hx))
      have hB5 := u5.at hB (by simp)
      have hr5 : w5.rangeAt (w.heap.size + 1) 0 [.int .u8 (L : Nat)] := fun j v hj => by
        cases j with
        | zero => simp at hj; subst hj; simp only [World.cell?, hA5]; simp [hcs]
        | succ j => simp at hj
      have hlA5 := lt_of_block hA5
      have hc5 := hH5.cell
      have hd5 := (Upd.refl [] w5).drew
      have hbb := encS_len (ts.take k)
      have hbt := tot_take_le ts k
      have hbk : (ts.take k).length ≤ 10000 := by rw [List.length_take]; omega
      obtain ⟨E, hE⟩ : ∃ E, E = (encS (ts.take k)).length := ⟨_, rfl⟩
      have hEb : E ≤ 10010000 := by omega
      rw [← hE] at hH5 hc5
      have HE := Lib.hid hE
      clear hE hbb hbt hbk
      refine wp_region_split (S := Upd [] w5) [(false, 0), (true, 1), (true, 2), (true, 3), (true, 4), (true, 5), (true, 6)] [] [7, 8, 9, 10] (by kernel_rfl) (by kernel_rfl) (fun _ _ d _ _ h => by cases d <;> exact h) ((Upd.refl _ _).drew) ?_
      simp only [readsAt, opersAt, Option.map_some, List.filterMap_cons, List.filterMap_nil, List.getElem?_toArray, List.getElem?_cons_succ, List.getElem?_cons_zero]
      refine ⟨_, Or.inl ⟨by rfl, fun w' hS => by first | (go_simp; done) | (go_simp; with_reducible rfl)⟩, ?_⟩
      simp only [Act.put, List.setIfInBounds_toArray, List.set_cons_zero, List.set_cons_succ]
      refine ⟨_, Or.inl ⟨by rfl, fun w' hS => by first | (go_simp; done) | (go_simp; with_reducible rfl)⟩, ?_⟩
      simp only [Act.put, List.setIfInBounds_toArray, List.set_cons_zero, List.set_cons_succ]
      refine ⟨_, Or.inl ⟨by rfl, fun w' hS => by first | (go_simp; done) | (go_simp; with_reducible rfl)⟩, ?_⟩
      simp only [Act.put, List.setIfInBounds_toArray, List.set_cons_zero, List.set_cons_succ]
      refine ⟨_, Or.inl ⟨by rfl, fun w' hS => by first | (go_simp; done) | (go_simp; with_reducible rfl)⟩, ?_⟩
      simp only [Act.put, List.setIfInBounds_toArray, List.set_cons_zero, List.set_cons_succ]
      refine ⟨_, Or.inl ⟨by rfl, fun w' hS => by have e0 := Upd.cell1 hS hc5 (by simp); first | (go_simp; done) | (go_simp; with_reducible rfl)⟩, ?_⟩
      simp only [Act.put, List.setIfInBounds_toArray, List.set_cons_zero, List.set_cons_succ]
      refine ⟨_, Or.inl ⟨by rfl, fun w' hS => by first | (go_simp; done) | (go_simp; with_reducible rfl)⟩, ?_⟩
      simp only [Act.put, List.setIfInBounds_toArray, List.set_cons_zero, List.set_cons_succ]
      refine ⟨_, Or.inl ⟨by rfl, fun w' hS => by first | (go_simp; done) | (go_simp; with_reducible rfl)⟩, ?_⟩
      simp only [Act.put, List.setIfInBounds_toArray, List.set_cons_zero, List.set_cons_succ]
      simp only [readsThen, preThen]
      change wpList _ _ _ [_, _, _, _] _ _
      have hH5' := hH5.kept hd5 (by simp) (by simp)
      go_wp2_with (at_builtin; refine wpList_app _ rfl (.tmp 29) (.tmp 31) 29 29 rfl 5 (.int .u8 0) 1 1 Tryz.underlying29 Tryz.info5 rfl (by decide) hH5'.own rfl (Src.ofRange Tryz.underlying29 (n := 1) rfl (hd5.range hr5 hlA5 (by simp)) (by simp [Value.oneCell'])) rfl (by decide) (by omega) ?_; intro ao1 c1 w6 hown1 hupd1 hin1; have hc1 := hH5'.cell1 hupd1; have hf1 := hH5'.free1 hupd1)
      have hH6 := hH5'.after hown1 hupd1 hin1
      have hU6 := hH5'.upd hupd1 (.slice ao1 (m + E + 1) c1)
      have v6 : Upd (bp :: bk ao') w5 (w6.setCell ⟨bp, 0, none⟩ (.slice ao1 (m + E + 1) c1)) := (hd5.mono (by simp)).trans hU6 (fun _ h => .inl h)
      have hB6 := v6.at hB5 (hnI _ (.inl rfl))
      have hA6 := v6.at hA5 (hnI _ (.inr rfl))
      have hnw : wr.heap.size ∉ bp :: bk ao' := fun hm' => by
        rcases List.mem_cons.1 hm' with h | h
        · omega
        · have := hlt1 _ h; omega
      have n06 := v6.cell1 n0 hnw
      have n16 := v6.cell1 n1 hnw
      clear hown1 hupd1 hc1 hf1 hU6 hH5' hd5 hB5 hA5 n0 n1 hc5
      generalize w6.setCell ⟨bp, 0, none⟩ (.slice ao1 (m + E + 1) c1) = w7 at *
      have hc7 := hH6.cell
      have q0 : w7.cell? ⟨w.heap.size, 0, none⟩ = some (.slice ab (tot ts) cb) := by simp only [World.cell?, hB6]; rfl
      have hI6 : In (bk ao) W.heap.size ao1 := hI.step hin1 (by show W.heap.size ≤ w5.heap.size; omega)
      have hUw : Upd (bp :: bk ao) w w7 := (hU.trans (u5.mono (G := (w.heap.size + 1) :: []) (by simp)) (by simp)).trans v6 (fun y hy => by
        rcases List.mem_cons.1 hy with h | h
        · exact .inl (by rw [h]; exact List.mem_cons_self)
        · rcases hI y h with h | h
          · exact .inl (List.mem_cons_of_mem _ h)
          · exact .inr (by omega))
      have hw2 : IntKind.i64.wrap ((S : Int) + L) = S + L := IntWalk.i64_in _ (by omega)
      have hd7 := (Upd.refl [] w7).drew
      have hH7 := hH6.kept hd7 (by simp) (by simp)
      have hvb7 : View w7.drew 1 ab (tot ts) (ts.flatMap id) := (hvb.upd hUw hnb).upd hd7 (by simp)
      clear hw2
      refine wp_region_split (S := Upd [] w7) [(false, 0), (true, 1), (true, 2), (true, 3), (true, 4), (true, 5), (true, 6), (true, 7), (true, 8), (true, 9), (true, 10), (true, 11)] [] [12, 13, 14, 15] (by kernel_rfl) (by kernel_rfl) (fun _ _ d _ _ h => by cases d <;> exact h) ((Upd.refl _ _).drew) ?_
      simp only [readsAt, opersAt, Option.map_some, List.filterMap_cons, List.filterMap_nil, List.getElem?_toArray, List.getElem?_cons_succ, List.getElem?_cons_zero]
      refine ⟨_, Or.inl ⟨by rfl, fun w' hS => by first | (go_simp; done) | (go_simp; with_reducible rfl)⟩, ?_⟩
      simp only [Act.put, List.setIfInBounds_toArray, List.set_cons_zero, List.set_cons_succ]
      refine ⟨_, Or.inl ⟨by rfl, fun w' hS => by first | (go_simp; done) | (go_simp; with_reducible rfl)⟩, ?_⟩
      simp only [Act.put, List.setIfInBounds_toArray, List.set_cons_zero, List.set_cons_succ]
      refine ⟨_, Or.inl ⟨by rfl, fun w' hS => by first | (go_simp; done) | (go_simp; with_reducible rfl)⟩, ?_⟩
      simp only [Act.put, List.setIfInBounds_toArray, List.set_cons_zero, List.set_cons_succ]
      refine ⟨_, Or.inl ⟨by rfl, fun w' hS => by first | (go_simp; done) | (go_simp; with_reducible rfl)⟩, ?_⟩
      simp only [Act.put, List.setIfInBounds_toArray, List.set_cons_zero, List.set_cons_succ]
      refine ⟨_, Or.inl ⟨by rfl, fun w' hS => by have e0 := Upd.cell1 hS hc7 (by simp); have e1 := Upd.cell1 hS q0 (by simp); have e2 := Upd.cell1 hS n06 (by simp); have e3 := Upd.cell1 hS n16 (by simp); first | (go_simp; done) | (go_simp; with_reducible rfl)⟩, ?_⟩
      simp only [Act.put, List.setIfInBounds_toArray, List.set_cons_zero, List.set_cons_succ]
      refine ⟨_, Or.inl ⟨by rfl, fun w' hS => by first | (go_simp; done) | (go_simp; with_reducible rfl)⟩, ?_⟩
      simp only [Act.put, List.setIfInBounds_toArray, List.set_cons_zero, List.set_cons_succ]
      refine ⟨_, Or.inl ⟨by rfl, fun w' hS => by have e0 := Upd.cell1 hS hc7 (by simp); have e1 := Upd.cell1 hS q0 (by simp); have e2 := Upd.cell1 hS n06 (by simp); have e3 := Upd.cell1 hS n16 (by simp); first | (go_simp; done) | (go_simp; with_reducible rfl)⟩, ?_⟩
      simp only [Act.put, List.setIfInBounds_toArray, List.set_cons_zero, List.set_cons_succ]
      refine ⟨_, Or.inl ⟨by rfl, fun w' hS => by first | (go_simp; done) | (go_simp; with_reducible rfl)⟩, ?_⟩
      simp only [Act.put, List.setIfInBounds_toArray, List.set_cons_zero, List.set_cons_succ]
      refine ⟨_, Or.inl ⟨by rfl, fun w' hS => by have e0 := Upd.cell1 hS hc7 (by simp); have e1 := Upd.cell1 hS q0 (by simp); have e2 := Upd.cell1 hS n06 (by simp); have e3 := Upd.cell1 hS n16 (by simp); first | (go_simp; done) | (go_simp; with_reducible rfl)⟩, ?_⟩
      simp only [Act.put, List.setIfInBounds_toArray, List.set_cons_zero, List.set_cons_succ]
      refine ⟨_, Or.inl ⟨by rfl, fun w' hS => by first | (go_simp; done) | (go_simp; with_reducible rfl)⟩, ?_⟩
      simp only [Act.put, List.setIfInBounds_toArray, List.set_cons_zero, List.set_cons_succ]
      refine ⟨_, Or.inl ⟨by rfl, fun w' hS => by have e0 := Upd.cell1 hS hc7 (by simp); have e1 := Upd.cell1 hS q0 (by simp); have e2 := Upd.cell1 hS n06 (by simp); have e3 := Upd.cell1 hS n16 (by simp); first | (go_simp; done) | (go_simp; with_reducible rfl)⟩, ?_⟩
      simp only [Act.put, List.setIfInBounds_toArray, List.set_cons_zero, List.set_cons_succ]
      refine ⟨_, yields_cut rfl 29 5 _ _ _ rfl Tryz.underlying29 (by kernel_rfl) ab (tot ts) cb rfl _ _ S L rfl rfl rfl rfl (by omega), ?_⟩
      simp only [Act.put, List.setIfInBounds_toArray, List.set_cons_zero, List.set_cons_succ]
      simp only [readsThen, preThen]
      change wpList _ _ _ [_, _, _, _] _ _
      have hsrc : Src Tryz.prog 1 29 (.slice (cutAddr ab S cb) L (cb - S)) L t w7.drew := by
        have htl := HL.out
        by_cases h0 : L = 0
        · rw [h0] at htl ⊢
          obtain rfl : t = [] := List.eq_nil_of_length_eq_zero htl.symm
          cases hca : cutAddr ab S cb with
          | none => exact Src.ofNil _ Tryz.underlying29 _
          | some a => exact Src.ofSlice _ Tryz.underlying29 a 0 _ [] rfl (by simp) (by simp)
        · obtain ⟨b, o, rfl, hrb, hbb⟩ := hvb7.at_ (by omega)
          have hne : ¬ cb = S := by omega
          simp only [cutAddr, if_neg hne, Option.map_some, Addr.add_mid]
          refine Src.ofRange Tryz.underlying29 (by omega) (fun j v hj => ?_) (by rw [HT.out]; exact (h1 _ (List.getElem_mem _)).2)
          have h3 := flat_mid ts k hlt j v (by rw [← HT.out]; exact hj)
          rw [← HS.out] at h3
          have := hrb _ _ h3
          rwa [← Nat.add_assoc] at this
      go_wp2_with (at_builtin; refine wpList_app _ rfl (.tmp 39) (.tmp 46) 29 29 rfl 5 (.int .u8 0) 1 1 Tryz.underlying29 Tryz.info5 rfl (by decide) hH7.own rfl hsrc rfl (by decide) (by omega) ?_; intro ao2 c2 w8 hown2 hupd2 hin2; have hc8 := hH7.cell1 hupd2; have hf8 := hH7.free1 hupd2)
      have hH8 := hH7.after hown2 hupd2 hin2
      have v8 := hd7.mono (G := bp :: bk ao1) (by simp) |>.trans (hH7.upd hupd2 (.slice ao2 (m + E + 1 + L) c2)) (fun _ h => .inl h)
      have hnJ : ∀ y, y = w.heap.size ∨ y = w.heap.size + 1 → y ∉ bp :: bk ao1 := fun y hy hm' => by
        rcases List.mem_cons.1 hm' with h | h
        · omega
        · rcases hI6 y h with h | h
          · have := hbo y h; omega
          · omega
      have hB8 := v8.at hB6 (hnJ _ (.inl rfl))
      have hA8 := v8.at hA6 (hnJ _ (.inr rfl))
      have hUx : Upd (bp :: bk ao) w (w8.setCell ⟨bp, 0, none⟩ (.slice ao2 (m + E + 1 + L) c2)) := hUw.trans v8 (fun y hy => by
        rcases List.mem_cons.1 hy with h | h
        · exact .inl (by rw [h]; exact List.mem_cons_self)
        · rcases hI6 y h with h | h
          · exact .inl (List.mem_cons_of_mem _ h)
          · exact .inr (by omega))
      have hIx : In (bk ao) W.heap.size ao2 := hI6.step hin2 (by show W.heap.size ≤ w7.heap.size; have := v6.size; omega)
      have hHx : Hold (w8.setCell ⟨bp, 0, none⟩ (.slice ao2 (m + E + 1 + L) c2)) bp 210 5 1 ao2 (m + (encS (ts.take (k + 1))).length) c2 (bs ++ encS (ts.take (k + 1))) := by
        have e1 : encS (ts.take (k + 1)) = encS (ts.take k) ++ (.int .u8 (L : Nat) :: t) := by rw [encS_take_succ ts k hlt, encT, ← HT.out, ← HL.out]
        rw [e1, List.length_append, List.length_cons, ← HE.out, ← HL.out, show m + (E + (L + 1)) = m + E + 1 + L by omega]
        simpa using hH8
      have hcx : (cur.setIfInBounds 0 (.int .u8 L)).size = 10 := by simp [hcs]
      clear hH8 hown2 hupd2 hin2 v8 hc8 hf8 hsrc hH7 hvb7 hd7 hUw hI6 q0 hc7 n16 n06 hA6 hB6 v6 hH6 hnw hin1 hH5 hr5 hH hU hI hA hB hlt1 hnI hnJ u5 d0 d1 hw1
      go_roundw
      case rel => exact ⟨k + 1, ao2, c2, _, by omega, by go_num, hHx, hB8, hA8, hcx, hUx, hIx⟩
      case measure => simp [intOf]; omega
    · have hk0 : ts.length ≤ k := by omega
      obtain rfl : k = ts.length := by omega
      rw [List.take_of_length_le (by omega)] at hH
      go_wp2
      go_end0
      exact ⟨rfl, ao', c', hH, hU, hI.le u12.size⟩
end Go.Proofs.YtpehfhdacgjmpaaGreat
