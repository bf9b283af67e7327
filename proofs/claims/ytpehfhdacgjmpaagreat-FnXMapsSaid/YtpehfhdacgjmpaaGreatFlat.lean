/- slices.Clone, wxText, wxFlat. -/
import Derived.Test.YtpehfhdacgjmpaaGreatGuards
import Derived.Laws.IdiomStrings
import Derived.Laws.Cover3
namespace Go.Proofs.YtpehfhdacgjmpaaGreat
open Go Go.RowKit
set_option maxRecDepth 100000 in
set_option maxHeartbeats 400000 in
theorem wxText (ar : Option Addr) (n c : Nat) (vs : List Value) (ts : List (List Value)) (w : World) (hr : View w 1 ar n vs) (hT : TextsV w [] n vs ts) (h1 : Short ts) (hn : n ≤ 1000) :
    Calls Tryz.prog 18 #[.slice ar n c] w (Made w (encS ts).length (encS ts)) := by
  go_enter Tryz.func18, Tryz.ntmps18
  go_wp2_with (go_at_call 11; (refine (STEncode_0 0 ar n c vs ts _ hr hT h1 hn).mono ?_); rintro e w2 ⟨ao, c', rfl, hR, hU, hI⟩)
  go_ret
  exact ⟨ao, c', rfl, hR, hU, hI⟩
theorem eqNil (a : Option Addr) (l c : Nat) (w : World) : (binOp .eql 29 (.slice a l c) (.slice none 0 0)).run Tryz.prog w = .ok (.bool a.isNone) w := by
  have h := run_equal_slice_nil (P := Tryz.prog) w 29 5 a l c Tryz.underlying29
  simp [binOp, h]
set_option maxRecDepth 100000 in
set_option maxHeartbeats 400000 in
theorem Clone (ao : Option Addr) (n c : Nat) (bs : List Value) (w : World) (hv : View w 1 ao n bs) (h1 : ∀ u ∈ bs, u.oneCell' = true) (hn : n ≤ 100000) (hnil : ao = none → n = 0 ∧ c = 0) :
    Calls Tryz.prog 17 #[.slice ao n c] w (Made w n bs) := by
  have hl := hv.len
  have hq := eqNil ao n c
  go_enter Tryz.func17, Tryz.ntmps17
  cases ao with
  | none =>
    obtain ⟨rfl, rfl⟩ := hnil rfl
    obtain rfl : bs = [] := List.eq_nil_of_length_eq_zero (by simpa using hl)
    go_wp2
    go_ret
    exact ⟨none, 0, rfl, Row.nil, Upd.refl _ _, In.nil⟩
  | some a =>
    have hrow : Row (w.alloc (.cells #[] 5)) 5 1 (some ⟨w.heap.size, 0, none⟩) 0 0 [] := Row.of _ (heap_alloc_new _ _) (Nat.le_refl _) (by decide) rfl rfl
    have u1 := (Upd.refl [] w).alloc (Obj.cells #[] 5)
    have hv1 := hv.upd u1 (by simp)
    have hsrc : Src Tryz.prog 1 29 (.slice (some a) n c) n bs (w.alloc (.cells #[] 5)) := by
      by_cases h0 : n = 0
      · subst h0
        obtain rfl : bs = [] := List.eq_nil_of_length_eq_zero (by simpa using hl)
        exact Src.ofSlice _ Tryz.underlying29 a 0 c [] rfl (by simp) (by simp)
      · obtain ⟨b, o, h, hr, hb⟩ := hv1.at_ (by omega)
        cases h
        exact Src.ofRange Tryz.underlying29 hl hr h1
    go_wp2_with (at_builtin; refine wpList_app _ rfl (.tmp 5) (.tmp 6) 29 29 rfl 5 (.int .u8 0) 1 1 Tryz.underlying29 Tryz.info5 rfl (by decide) hrow rfl hsrc rfl (by decide) (by omega) ?_; intro ao1 c1 w2 hown1 hupd1 hin1)
    go_ret
    refine ⟨ao1, c1, by simp, by simpa using hown1, u1.trans hupd1 (fun y hy => by simp at hy; exact .inr (by omega)), fun y hy => ?_⟩
    rcases hin1 y hy with h | h
    · simp at h; exact .inr (by omega)
    · exact .inr (Nat.le_trans u1.size h)

theorem wpList_bytes {P : Program} {w : World} {ops : Array Oper} {rest : List Oper} {o : Oper} {a : Act} {Q : Exit → Act → World → Prop} (hgd : o.guard = none) (src dst e : TypeId) (x : Operand) (ho : o.op = .convert src dst x)
    (hs : P.underlying src = some .string) (hd : P.underlying dst = some (.slice e)) (he : P.underlying e = some (.int .u8)) (s : ByteArray) (hx : a.eval x = .string s)
    (h : ∀ c' w', View w' 1 (some ⟨w.heap.size, 0, none⟩) s.size (byteCells s) → Upd [] w w' → w.heap.size < w'.heap.size → wpList P ops Q rest (a.put o.dst (.slice (some ⟨w.heap.size, 0, none⟩) s.size c')) w') : wpList P ops Q (o :: rest) a w := by
  refine wpList_plain hgd fun K hK => ?_
  have hr := run_bytes_of_string (P := P) w src dst e s hs hd he
  unfold Oper.wp execOp
  simp only [ho, hx, Sem.run_bind, hr, Result.andThen_ok, Sem.run_pure]
  refine hK _ _ (h _ _ ⟨?_, fun hn => ⟨_, _, rfl, fun j v hj => ?_, by simp⟩⟩ ((Upd.refl [] w).drew.alloc _) (by simp))
  · simp [byteCells]
  · have hb : (w.drew.alloc (.cells (bytesRow s (grownCap w s.size 0 e)) e ((bytesRow s (grownCap w s.size 0 e)).size, (bytesRow s (grownCap w s.size 0 e)).size + 1))).heap[w.heap.size]? = some (.cells (bytesRow s (grownCap w s.size 0 e)) e ((bytesRow s (grownCap w s.size 0 e)).size, (bytesRow s (grownCap w s.size 0 e)).size + 1)) := heap_alloc_new w.drew _
    have hj' : (bytesRow s (grownCap w s.size 0 e))[j]? = some v := by
      have hlt : j < (byteCells s).length := (List.getElem?_eq_some_iff.1 hj).1
      unfold bytesRow
      rw [Array.getElem?_append_left (by simpa [byteCells] using hlt), ← Array.getElem?_toList, Array.toList_map]
      exact hj
    simp only [World.cell?, hb, Nat.zero_add]
    exact hj'

theorem TextsV.snoc2 {w w1 w2 : World} {n : Nat} {F F' G : List Nat} {vs : List Value} {ts : List (List Value)} (h : TextsV w F n vs ts) (hal : ∀ x, x ∈ F → x < w.heap.size)
    (hu1 : Upd [] w w1) {ax : Option Addr} {cx : Nat} {t : List Value} (hx : View w1 1 ax t.length t) (hx1 : AllBytes t) (hin : In [] w.heap.size ax) (hlt : ∀ x, x ∈ bk ax → x < w1.heap.size)
    (hu2 : Upd G w1 w2) (hG : ∀ x, x ∈ G → x ∈ F) (hF : ∀ x, x ∈ F' → x ∈ F ∨ w1.heap.size ≤ x) : TextsV w2 F' (n + 1) (vs ++ [.slice ax t.length cx]) (ts ++ [t]) := by
  have hl := h.len
  have ht := h.lent
  refine ⟨by simp [hl], by simp [ht], fun k hk => ?_⟩
  by_cases hlt' : k < n
  · obtain ⟨ay, cy, h1, h2, h3, h4⟩ := h.at_ k hlt'
    have e : (ts ++ [t])[k]'(by simp; omega) = ts[k]'(by omega) := List.getElem_append_left (by omega)
    rw [e]
    refine ⟨ay, cy, by rw [List.getElem?_append_left (by omega)]; exact h1, ?_, h3, fun x hx' => ⟨fun hg => ?_, Nat.lt_of_lt_of_le (h4 x hx').2 (Nat.le_trans hu1.size hu2.size)⟩⟩
    · exact (h2.upd hu1 (by simp)).upd hu2 (fun x hx' hg => (h4 x hx').1 (hG x hg))
    · rcases hF x hg with h5 | h5
      · exact (h4 x hx').1 h5
      · have := (h4 x hx').2; have := hu1.size; omega
  · obtain rfl : k = n := by omega
    have hne : ∀ x, x ∈ bk ax → x ∉ F := fun x hx' hg => by
      rcases hin x hx' with h5 | h5
      · simp at h5
      · have := hal x hg; omega
    have e : (ts ++ [t])[k]'(by simp; omega) = t := by rw [List.getElem_append_right (by omega)]; simp [ht]
    rw [e]
    refine ⟨ax, cx, by rw [List.getElem?_append_right (by omega)]; simp [hl], hx.upd hu2 (fun x hx' hg => hne x hx' (hG x hg)), hx1, fun x hx' => ⟨fun hg => ?_, Nat.lt_of_lt_of_le (hlt x hx') hu2.size⟩⟩
    rcases hF x hg with h5 | h5
    · exact hne x hx' h5
    · have := hlt x hx'; omega
theorem byteCells_all (s : ByteArray) : AllBytes (byteCells s) := fun u hu => by
  obtain ⟨b, _, rfl⟩ := List.mem_map.1 hu
  exact ⟨b.toNat, rfl, by omega, by have := b.toNat_lt; omega⟩
theorem byteCells_len (s : ByteArray) : (byteCells s).length = s.size := by simp [byteCells]
/-- what wxFlat has in hand -/
structure FlatSt (w wr : World) (al : Option Addr) (A cl : Nat) (vs : List Value) (ts : List (List Value)) (ae : Option Addr) (k ce : Nat) (es : List R4) : Prop where
  all : Row wr 29 1 al A cl vs
  txt : TextsV wr (bk al ++ bk ae) A vs ts
  ends : Row wr 28 4 ae k ce (es.flatMap R4.cells)
  sep : ∀ x, x ∈ bk al → x ∉ bk ae
  ia : In [] w.heap.size al
  ie : In [] w.heap.size ae
  upd : Upd [] w wr
theorem Tryz.info29 : (Tryz.prog.info? 29).map (fun i => (i.zero, i.size, i.bytes)) = some (some (.slice none 0 0), 1, 24) := by kernel_rfl
def endR (x : Int) : R4 := ⟨x, 0, 0, 0⟩
set_option maxRecDepth 100000 in
set_option maxHeartbeats 1000000 in
theorem wxFlat (ar : Option Addr) (n c : Nat) (vs : List Value) (sss : List (List ByteArray)) (w : World) (hr : View w 1 ar n vs) (hS : StrsV w n vs sss) (hfew : Few sss) :
    Calls Tryz.prog 15 #[.slice ar n c] w fun e w' => ∃ al cl vs' ae ce, e = .returned (.tuple #[.slice al (sss.flatten.length) cl, .slice ae n ce]) ∧ FlatSt w w' al (sss.flatten.length) cl vs' (sss.flatten.map byteCells) ae n ce ((endsN sss n).map endR) := by
  have hlent := hS.lent
  have hrows := hfew.rows
  go_enter Tryz.func15, Tryz.ntmps15
  go_wp2
  go_loopw [4, 5, 12] (fun a e i wr => ∃ (k : Nat) (al : Option Addr) (cl : Nat) (vs' : List Value) (ae : Option Addr) (ce : Nat), k ≤ n ∧ i = .int .i64 k ∧ a = .slice al ((sss.take k).flatten.length) cl ∧ e = .slice ae k ce ∧ FlatSt w wr al ((sss.take k).flatten.length) cl vs' ((sss.take k).flatten.map byteCells) ae k ce ((endsN sss k).map endR))
    (fun _ _ i _ => n - (intOf i).toNat)
  case atStart => exact ⟨0, none, 0, [], none, 0, Nat.zero_le _, rfl, rfl, rfl, ⟨Row.nil, TextsV.nil, Row.nil, by simp, In.nil, In.nil, Upd.refl _ _⟩⟩
  case round =>
    obtain ⟨k, al, cl, vs', ae, ce, hk, rfl, rfl, rfl, hF⟩ := hrel
    obtain ⟨A, hA⟩ : ∃ A, A = (sss.take k).flatten.length := ⟨_, rfl⟩
    have hAb := hfew.len k
    rw [← hA] at hF hAb ⊢
    have HA := Lib.hid hA
    clear hA
    by_cases hlt : k < n
    · have hk0 : ((k : Int) < n) := by omega
      obtain ⟨b, o, rfl, hrr, hbb⟩ := hr.at_ (by omega)
      obtain ⟨ax, cx, hv1, hv2⟩ := hS.at_ k hlt
      obtain ⟨ss, hss⟩ : ∃ ss, ss = sss[k]'(by omega) := ⟨_, rfl⟩
      rw [← hss] at hv1 hv2
      have hsk := (hfew.strs ss (by rw [hss]; exact List.getElem_mem _)).1
      have hcell : wr.cell? ⟨b, o + k, none⟩ = some (.slice ax ss.length cx) := (hF.upd.cell hbb (by simp)).trans (hrr k _ hv1)
      have HS := Lib.hid hss
      clear hss
      go_wp2
      go_loopw [4, 18] (fun a i wi => ∃ (j : Nat) (al' : Option Addr) (cl' : Nat) (vs'' : List Value), j ≤ ss.length ∧ i = .int .i64 j ∧ a = .slice al' (A + j) cl' ∧ FlatSt w wi al' (A + j) cl' vs'' ((sss.take k).flatten.map byteCells ++ (ss.take j).map byteCells) ae k ce ((endsN sss k).map endR))
        (fun _ i _ => ss.length - (intOf i).toNat)
      case atStart => exact ⟨0, al, cl, vs', Nat.zero_le _, rfl, rfl, by simpa using hF⟩
      case round =>
        obtain ⟨j, al', cl', vs'', hj, rfl, rfl, hI⟩ := hrel
        by_cases hjl : j < ss.length
        · have hj0 : ((j : Int) < ss.length) := by omega
          obtain ⟨b2, o2, rfl, hrr2, hbb2⟩ := hv2.at_ (by omega)
          obtain ⟨s, hx⟩ : ∃ s, s = ss[j]'hjl := ⟨_, rfl⟩
          have hcell2 : wr.cell? ⟨b2, o2 + j, none⟩ = some (.string s) := (hI.upd.cell hbb2 (by simp)).trans (hrr2 j _ (by rw [List.getElem?_map, List.getElem?_eq_getElem hjl, hx]; rfl))
          have HX := Lib.hid hx
          clear hx
          go_wp2_with (first
            | ((with_reducible show wpList _ _ _ _ _ _); refine wpList_bytes rfl 9 29 5 (.tmp 23) rfl Tryz.underlying9 Tryz.underlying29 Tryz.underlying5 s rfl ?_; intro cs w1 hvw hu1 hsz; simp only [Act.put])
            | (at_builtin; refine wpList_app1 _ rfl (.tmp 22) (.tmp 25) 25 rfl 29 (.slice none 0 0) 1 24 Tryz.underlying25 Tryz.info29 rfl (by decide) (hI.all.upd hu1 (by simp)) rfl [.slice (some ⟨wr.heap.size, 0, none⟩) s.size cs] rfl rfl rfl (by simp [Value.oneCell']) (by decide) (by omega) ?_; intro al1 cl1 w2 hown1 hupd1 hin1))
          have hU1 : Upd [] w w1 := hI.upd.trans hu1 (by simp)
          have hlt1 := hI.all.lt
          have hlt2 := hI.ends.lt
          have hU2 : Upd [] w w2 := hU1.trans hupd1 (fun y hy => (hI.ia y hy).elim (fun h => by simp at h) .inr)
          have hsep2 : ∀ x, x ∈ bk al1 → x ∉ bk ae := fun x hx hx' => (hin1 x hx).elim (fun h => hI.sep x h hx') (fun h => by have := hlt2 x hx'; have := hu1.size; omega)
          have hia2 : In [] w.heap.size al1 := hI.ia.step hin1 hU1.size
          have hends2 := (hI.ends.upd hu1 (by simp)).upd hupd1 (fun x hx hx' => hI.sep x hx' hx)
          have htxt2 : TextsV w2 (bk al1 ++ bk ae) (A + j + 1) (vs'' ++ [.slice (some ⟨wr.heap.size, 0, none⟩) s.size cs]) ((sss.take k).flatten.map byteCells ++ (ss.take j).map byteCells ++ [byteCells s]) := by
            have := hI.txt.snoc2 (cx := cs) (ax := some ⟨wr.heap.size, 0, none⟩) (t := byteCells s) (F' := bk al1 ++ bk ae) (fun x hx => (List.mem_append.1 hx).elim (hlt1 x) (hlt2 x)) hu1 (by rw [byteCells_len]; exact hvw) (byteCells_all s) (fun x hx => .inr (by simp at hx; omega)) (fun x hx => by simp at hx; omega) hupd1 (fun x hx => List.mem_append_left _ hx) (fun x hx => (List.mem_append.1 hx).elim (fun h => (hin1 x h).imp (List.mem_append_left _) id) (fun h => .inl (List.mem_append_right _ h)))
            rwa [byteCells_len] at this
          have hnew : FlatSt w w2 al1 (A + (j + 1)) cl1 (vs'' ++ [.slice (some ⟨wr.heap.size, 0, none⟩) s.size cs]) ((sss.take k).flatten.map byteCells ++ (ss.take (j + 1)).map byteCells) ae k ce ((endsN sss k).map endR) := by
            rw [List.take_succ_eq_append_getElem hjl, ← HX.out, List.map_append, ← List.append_assoc]
            exact ⟨hown1, htxt2, hends2, hsep2, hia2, hI.ie, hU2⟩
          clear htxt2 hown1 hends2 hI
          go_roundw
          case rel => exact ⟨j + 1, al1, cl1, _, by omega, by go_num, by go_num, hnew⟩
          case measure => simp [intOf]; omega
        · have hj0 : (ss.length : Int) ≤ j := by omega
          obtain rfl : j = ss.length := by omega
          rw [List.take_of_length_le (Nat.le_refl _)] at hI
          have hwu : IntKind.u64.wrap ((A : Int) + ss.length) = (A : Int) + ss.length := IntWalk.u64_in _ (by omega)
          go_wp2_with (at_builtin; refine wpList_app1 _ rfl (.tmp 28) (.tmp 33) 22 rfl 28 _ 4 32 Tryz.underlying22 Tryz.info28 rfl (by decide) hI.ends rfl [.int .u64 ((A : Int) + ss.length), .int .u64 0, .int .u64 0, .int .u64 0] rfl rfl rfl (by simp [Value.oneCell']) (by decide) (by omega) ?_; intro ae1 ce1 w2 hown1 hupd1 hin1)
          have e1 : (sss.take (k + 1)).flatten = (sss.take k).flatten ++ ss := by rw [List.take_succ_eq_append_getElem (by omega), List.flatten_append, ← HS.out]; simp
          have e2 : (sss.take (k + 1)).flatten.length = A + ss.length := by rw [e1, List.length_append, ← HA.out]
          have hlt2 := hI.ends.lt
          have hU2 : Upd [] w w2 := hI.upd.trans hupd1 (fun y hy => (hI.ie y hy).elim (fun h => by simp at h) .inr)
          have hall2 := hI.all.upd hupd1 hI.sep
          have hltA := hI.all.lt
          have hsep2 : ∀ x, x ∈ bk al' → x ∉ bk ae1 := fun x hx hx' => (hin1 x hx').elim (hI.sep x hx) (fun h => by have := hltA x hx; omega)
          have htxt2 : TextsV w2 (bk al' ++ bk ae1) (A + ss.length) vs'' ((sss.take (k + 1)).flatten.map byteCells) := by
            rw [e1, List.map_append]
            have h1 := hI.txt.mono (G := bk al' ++ bk ae ++ bk ae1) (fun x hx hlt => (List.mem_append.1 hx).elim id (fun h => (hin1 x h).elim (List.mem_append_right _) (fun h => by omega)))
            have h2 := h1.upd hupd1 (fun x hx _ => List.mem_append_left _ (List.mem_append_right _ hx))
            exact h2.mono (fun x hx _ => (List.mem_append.1 hx).elim (fun h => List.mem_append_left _ (List.mem_append_left _ h)) (List.mem_append_right _))
          refine ⟨⟨k + 1, al', cl', vs'', ae1, ce1, by omega, by go_num, by rw [e2], rfl, ?_⟩, by simp [intOf]; omega⟩
          rw [e2]
          refine ⟨hall2, htxt2, ?_, hsep2, hI.ia, hI.ie.step hin1 hI.upd.size, hU2⟩
          rw [endsN_succ, List.map_append, List.flatMap_append, e2]
          simpa [endR, R4.cells] using hown1
    · have hk0 : n ≤ k := by omega
      obtain rfl : k = n := by omega
      go_wp2
      have hA := HA.out
      rw [List.take_of_length_le (by omega)] at hA hF
      rw [hA] at hF
      refine bodyPost_ret (results_tmp2 Tryz.results15 _ _ _) rfl ⟨al, cl, vs', ae, ce, ?_, hF⟩
      rw [← hA]
      rfl
end Go.Proofs.YtpehfhdacgjmpaaGreat
