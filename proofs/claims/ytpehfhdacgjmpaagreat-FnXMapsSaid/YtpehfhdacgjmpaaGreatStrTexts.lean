/- Texts of any length in a column of strings: add, STEncode at kind 0. -/
import Derived.Test.YtpehfhdacgjmpaaGreatStrEnc
import Derived.Test.YtpehfhdacgjmpaaGreatEncs
import Derived.Test.YtpehfhdacgjmpaaGreatEqs
namespace Go.Proofs.YtpehfhdacgjmpaaGreat
open Go Go.RowKit
theorem strOf_cells (bs : List Value) (h : AllBytes bs) : byteCells (strOf bs) = bs := by
  have key : ∀ (ns : List Int) (s : ByteArray), (ns.foldl (fun r n => r.push (UInt8.ofNat n.toNat)) s).data.toList = s.data.toList ++ ns.map (fun n => UInt8.ofNat n.toNat) := by
    intro ns
    induction ns with
    | nil => intro s; simp
    | cons n ns ih => intro s; rw [List.foldl_cons, ih]; simp [ByteArray.push]
  have h2 : ∀ u ∈ bs, (Value.int .u8 ((UInt8.ofNat (intOf u).toNat).toNat : Nat)) = u := fun u hu => by
    obtain ⟨x, rfl, h0, h1⟩ := h u hu
    simp only [intOf, UInt8.toNat_ofNat']
    congr 1
    omega
  have h3 : (strOf bs).data.toList = bs.map (fun u => UInt8.ofNat (intOf u).toNat) := by
    unfold strOf
    rw [key, List.map_map]
    rfl
  unfold byteCells
  rw [h3, List.map_map]
  refine (List.map_congr_left (fun u hu => ?_)).trans (List.map_id bs)
  exact h2 u hu
theorem strOf_size (bs : List Value) (h : AllBytes bs) : (strOf bs).size = bs.length := by
  have := congrArg List.length (strOf_cells bs h)
  rwa [byteCells, List.length_map, Array.length_toList] at this
set_option maxRecDepth 100000 in
set_option maxHeartbeats 400000 in
theorem in_text (ao : Option Addr) (n c : Nat) (bs : List Value) (w : World) (hv : View w 1 ao n bs) (hb : AllBytes bs) : Calls Tryz.prog 80 #[.slice ao n c] w fun e w' => e = .returned (.string (strOf bs)) ∧ w' = w := by
  have e1 := run_text ao n c bs w hv hb
  go_enter Tryz.func80, Tryz.ntmps80
  go_wp2
  go_ret
  exact ⟨rfl, rfl⟩

/-- the column of strings over the variable p -/
def txt_S (p : Nat) : Value := .agg #[.iface 87 (.pointer (some ⟨p, 0, none⟩)), .func (Fn.func 80) #[] #[], .func (Fn.func 81) #[] #[], .func (Fn.func 82) #[.pointer (some ⟨p, 0, none⟩)] #[]]
theorem methT_S (p : Nat) (w : World) : (method 706 87 (.pointer (some ⟨p, 0, none⟩)) "Append").run Tryz.prog w = .ok (104, .pointer (some ⟨p, 0, none⟩)) w := by kernel_rfl
set_option maxRecDepth 100000 in
set_option maxHeartbeats 400000 in
theorem addT_S (p : Nat) (F : List Nat) (ts : List (List Value)) (ax : Option Addr) (n cx : Nat) (x : List Value) (w : World) (hx : View w 1 ax n x) (hx1 : AllBytes x) (hc : StrCol w p F ts) (hn : n ≤ 1000) (hts : ts.length ≤ 10000) (htt : tot ts ≤ 1000000) :
    Calls Tryz.prog 336 #[txt_S p, .slice ax n cx] w fun e w' => e = .returned (.tuple #[]) ∧ ∃ F', StrCol w' p F' (ts ++ [x]) ∧ Upd F w w' ∧ Grows w.heap.size F F' := by
  have hl : x.length = n := by have := hx.len; omega
  go_enter Tryz.func336, Tryz.ntmps336
  simp only [txt_S]
  go_wp2
  obtain ⟨k1, u1, s1⟩ := alloc_facts w (Obj.cells #[.iface 87 (.pointer (some ⟨p, 0, none⟩)), .func (Fn.func 80) #[] #[], .func (Fn.func 81) #[] #[], .func (Fn.func 82) #[.pointer (some ⟨p, 0, none⟩)] #[]] 217)
  have hh := hc.kept u1 (by simp)
  have hxv := hx.upd u1 (by simp)
  generalize w.alloc (Obj.cells #[.iface 87 (.pointer (some ⟨p, 0, none⟩)), .func (Fn.func 80) #[] #[], .func (Fn.func 81) #[] #[], .func (Fn.func 82) #[.pointer (some ⟨p, 0, none⟩)] #[]] 217) = W at *
  have q0 : W.cell? ⟨w.heap.size, 0, none⟩ = some (.iface 87 (.pointer (some ⟨p, 0, none⟩))) := by simp [World.cell?, k1]
  have q1 : W.cell? ⟨w.heap.size, 1, none⟩ = some (.func (Fn.func 80) #[] #[]) := by simp [World.cell?, k1]
  have hmeth := methT_S p
  refine wp_region_split (S := Upd [] W) [(true, 0), (true, 1), (true, 2), (true, 3), (true, 4), (true, 6), (true, 7)] [5] [8] (by kernel_rfl) (by kernel_rfl) (fun _ _ d _ _ h => by cases d <;> exact h) ((Upd.refl _ _).drew) ?_
  simp only [readsAt, opersAt, Option.map_some, List.filterMap_cons, List.filterMap_nil, List.getElem?_toArray, List.getElem?_cons_succ, List.getElem?_cons_zero]
  refine ⟨_, Or.inl ⟨by rfl, fun w' hS => by first | (go_simp; done) | (go_simp; with_reducible rfl)⟩, ?_⟩
  simp only [Act.put, List.setIfInBounds_toArray, List.set_cons_zero, List.set_cons_succ]
  refine ⟨_, Or.inl ⟨by rfl, fun w' hS => by have e0 := Upd.cell1 hS q0 (by simp); have e1 := Upd.cell1 hS q1 (by simp); first | (go_simp; done) | (go_simp; with_reducible rfl)⟩, ?_⟩
  simp only [Act.put, List.setIfInBounds_toArray, List.set_cons_zero, List.set_cons_succ]
  refine ⟨_, Or.inl ⟨by rfl, fun w' hS => by first | (go_simp; done) | (go_simp; with_reducible rfl)⟩, ?_⟩
  simp only [Act.put, List.setIfInBounds_toArray, List.set_cons_zero, List.set_cons_succ]
  refine ⟨_, Or.inl ⟨by rfl, fun w' hS => by have e0 := Upd.cell1 hS q0 (by simp); have e1 := Upd.cell1 hS q1 (by simp); first | (go_simp; done) | (go_simp; with_reducible rfl)⟩, ?_⟩
  simp only [Act.put, List.setIfInBounds_toArray, List.set_cons_zero, List.set_cons_succ]
  refine ⟨_, Or.inl ⟨by rfl, fun w' hS => by first | (go_simp; done) | (go_simp; with_reducible rfl)⟩, ?_⟩
  simp only [Act.put, List.setIfInBounds_toArray, List.set_cons_zero, List.set_cons_succ]
  refine ⟨_, Or.inl ⟨by rfl, fun w' hS => by first | (go_simp; done) | (go_simp; with_reducible rfl)⟩, ?_⟩
  simp only [Act.put, List.setIfInBounds_toArray, List.set_cons_zero, List.set_cons_succ]
  refine ⟨_, Or.inl ⟨by rfl, fun w' hS => by first | (go_simp; done) | (go_simp; with_reducible rfl)⟩, ?_⟩
  simp only [Act.put, List.setIfInBounds_toArray, List.set_cons_zero, List.set_cons_succ]
  intro L0 hL0
  rw [if_pos (by rfl)]
  go_simp; refine (in_text _ _ _ x _ (hxv.upd ((Upd.refl [] W).drew) (by simp)) hx1).mono ?_; rintro e w1 ⟨rfl, rfl⟩
  refine hL0 _ _ ⟨(Upd.refl [] W).drew, ?_⟩
  clear hL0 L0
  try simp only [preThen]
  change wpList _ _ _ [_] _ _
  have hd := (Upd.refl [] W).drew
  have hH1 := hh.kept hd (by simp)
  have hsz := strOf_size x hx1
  have hcl := strOf_cells x hx1
  go_wp2_with (go_at_call 104; (with_reducible refine (ColStr_Append p F ts (strOf x) _ hH1 (by omega) (by omega) (by omega)).mono ?_); rintro e w2 ⟨rfl, F2, hC2, hU2, hG2⟩)
  go_end0
  have uw := u1.trans hd (fun _ h => .inl h)
  rw [hcl] at hC2
  exact ⟨rfl, F2, hC2, (uw.mono (by simp)).trans hU2 (fun _ h => .inl h), fun x hx => (hG2 x hx).imp id (Nat.le_trans uw.size)⟩

theorem StrCol.new (w : World) : StrCol (w.alloc (.cells #[.slice none 0 0, .slice none 0 0] 90)) w.heap.size [w.heap.size] [] :=
  ⟨none, 0, none, 0, ⟨heap_alloc_new _ _, Row.nil, Row.nil, by simp, by simp, by simp⟩, by simp, by simp, by simp, by simp⟩
set_option maxRecDepth 100000 in
set_option maxHeartbeats 1000000 in
theorem colT_0 (s : Int) (w : World) : Calls Tryz.prog 31 #[.agg #[.int .i64 0, .int .i64 s]] w fun e w' => e = .returned (.iface 217 (txt_S (w.heap.size + 1))) ∧ w' = (w.alloc (.cells #[.int .i64 0, .int .i64 s] 24)).alloc (.cells #[.slice none 0 0, .slice none 0 0] 90) := by
  have hmf : ∀ (fn : Fn) (first cap : Array Value) (w : World), (Instr.makeFunc fn first cap).run Tryz.prog w = .ok (.func fn first cap) w := fun _ _ _ _ => rfl
  go_enter Tryz.func31, Tryz.ntmps31
  simp only [txt_S]
  go_wp2
  go_ret
  exact ⟨rfl, rfl⟩
theorem methE1_S (k p : Nat) (w : World) : (method (k + 1) 217 (txt_S p) "EncodeColumn").run Tryz.prog w = (method k 87 (.pointer (some ⟨p, 0, none⟩)) "EncodeColumn").run Tryz.prog w := by kernel_rfl
theorem methE2_S (k p : Nat) (w : World) : (method (k + 1) 87 (.pointer (some ⟨p, 0, none⟩)) "EncodeColumn").run Tryz.prog w = (do let v ← receiverAt 87 (.val (.pointer (some ⟨p, 0, none⟩))) false (some "EncodeColumn"); pure (186, v) : Sem (FuncId × Value)).run Tryz.prog w := by kernel_rfl
theorem methE3_S (p : Nat) (w : World) : (receiverAt 87 (.val (.pointer (some ⟨p, 0, none⟩))) false (some "EncodeColumn")).run Tryz.prog w = (loadVar 90 ⟨p, 0, none⟩).run Tryz.prog w := by kernel_rfl
theorem loadC_S (p : Nat) (w : World) (u v : Value) (h : w.cell? ⟨p, 0, none⟩ = some u) (h' : w.cell? ⟨p, 0 + 1, none⟩ = some v) : (loadVar 90 ⟨p, 0, none⟩).run Tryz.prog w = .ok (.agg #[u, v]) w := by
  go_simp
  done
theorem methE_S (p : Nat) (w : World) (v : Value) (h : (loadVar 90 ⟨p, 0, none⟩).run Tryz.prog w = .ok v w) : (method 706 217 (txt_S p) "EncodeColumn").run Tryz.prog w = .ok (186, v) w := by
  rw [show 706 = (706 - 2) + 1 + 1 from rfl, methE1_S, methE2_S]
  simp only [Sem.run_bind, methE3_S, h, Result.andThen_ok, Sem.run_pure]
/-- the same from the column itself -/
theorem methP_S (p : Nat) (w : World) (v : Value) (h : (loadVar 90 ⟨p, 0, none⟩).run Tryz.prog w = .ok v w) : (method 706 87 (.pointer (some ⟨p, 0, none⟩)) "EncodeColumn").run Tryz.prog w = .ok (186, v) w := by
  rw [show 706 = (706 - 1) + 1 from rfl, methE2_S]
  simp only [Sem.run_bind, methE3_S, h, Result.andThen_ok, Sem.run_pure]
theorem methA_S (p : Nat) (w : World) : (method 706 217 (txt_S p) "given.example/pub-clapboard/impl.add").run Tryz.prog w = .ok (336, txt_S p) w := by kernel_rfl
/-- texts short enough -/
def Short (ts : List (List Value)) : Prop := ∀ t ∈ ts, t.length < 128 ∧ ∀ u ∈ t, u.oneCell' = true
set_option maxRecDepth 100000 in
set_option maxHeartbeats 1000000 in
theorem enc_S (p : Nat) (F : List Nat) (ts : List (List Value)) (w : World) (h : StrCol w p F ts) (h1 : Short ts) (hn : ts.length ≤ 10000) (ht : tot ts ≤ 1000000) :
    Calls Tryz.prog 30 #[.func (Fn.method "EncodeColumn") #[.iface 217 (txt_S p)] #[]] w (Made w (encS ts).length (encS ts)) := by
  go_enter Tryz.func30, Tryz.ntmps30
  have hB := newBuf w
  have u1 := (Upd.refl [] w).alloc (Obj.cells #[.slice none 0 0] 210)
  obtain ⟨ab, cb, ap, cp, hA, _, hbF, hqF, hlt⟩ := h.kept u1 (by simp)
  have hltw := h.lt
  have c0 : (w.alloc (Obj.cells #[.slice none 0 0] 210)).cell? ⟨p, 0, none⟩ = some (.slice ab (tot ts) cb) := by simp only [World.cell?, hA.blk]; rfl
  have c1 : (w.alloc (Obj.cells #[.slice none 0 0] 210)).cell? ⟨p, 0 + 1, none⟩ = some (.slice ap ts.length cp) := by simp only [World.cell?, hA.blk]; rfl
  have hm := methE_S p _ _ (loadC_S p _ _ _ c0 c1)
  have ha1 : ∀ x, x ∈ bk ab → x ∉ w.heap.size :: bk none := fun x hx hx' => by
    have := hltw x (hbF x hx); simp at hx'; omega
  have ha2 : ∀ x, x ∈ bk ap → x ∉ w.heap.size :: bk none := fun x hx hx' => by
    have := hltw x (hqF x hx); simp at hx'; omega
  clear c0 c1
  go_wp2_with (go_at_call 186; (refine (ColStr_EncodeColumn _ _ _ _ ts _ _ _ _ _ _ hA.buf.toView hA.pos.toView hA.buf.cap.1 hB ha1 ha2 h1 (by omega) (by omega) (by omega)).mono ?_); rintro e w2 ⟨rfl, ao2, c2, hH2, hU2, hI2⟩; have hc2 := hH2.cell)
  go_ret
  exact Made.of (by simp) hH2 hU2 hI2

/-- a slice of texts of any length: its cells are the texts' slices, in blocks that are there -/
structure TextsV (w : World) (F : List Nat) (n : Nat) (vs : List Value) (ts : List (List Value)) : Prop where
  len : vs.length = n
  lent : ts.length = n
  at_ : ∀ k (h : k < n), ∃ ax cx, vs[k]? = some (.slice ax (ts[k]'(by omega)).length cx) ∧ View w 1 ax (ts[k]'(by omega)).length (ts[k]'(by omega)) ∧ AllBytes (ts[k]'(by omega)) ∧ (∀ x, x ∈ bk ax → x ∉ F ∧ x < w.heap.size)
theorem TextsV.upd {w w' : World} {n : Nat} {F G : List Nat} {vs : List Value} {ts : List (List Value)} (h : TextsV w F n vs ts) (hu : Upd G w w') (hG : ∀ x, x ∈ G → x < w.heap.size → x ∈ F) : TextsV w' F n vs ts := by
  refine ⟨h.len, h.lent, fun k hk => ?_⟩
  obtain ⟨ax, cx, h1, h2, h3, h4⟩ := h.at_ k hk
  exact ⟨ax, cx, h1, h2.upd hu (fun x hx hg => (h4 x hx).1 (hG x hg (h4 x hx).2)), h3, fun x hx => ⟨(h4 x hx).1, Nat.lt_of_lt_of_le (h4 x hx).2 hu.size⟩⟩
theorem TextsV.mono {w : World} {n : Nat} {F G : List Nat} {vs : List Value} {ts : List (List Value)} (h : TextsV w F n vs ts) (hG : ∀ x, x ∈ G → x < w.heap.size → x ∈ F) : TextsV w G n vs ts :=
  ⟨h.len, h.lent, fun k hk => by
    obtain ⟨ax, cx, h1, h2, h3, h4⟩ := h.at_ k hk
    exact ⟨ax, cx, h1, h2, h3, fun x hx => ⟨fun hg => (h4 x hx).1 (hG x hg (h4 x hx).2), (h4 x hx).2⟩⟩⟩
theorem TextsV.nil {w : World} {F : List Nat} : TextsV w F 0 [] [] := ⟨rfl, rfl, fun k hk => by omega⟩
theorem TextsV.snoc {w w1 w2 : World} {n : Nat} {al al' : Option Addr} {vs : List Value} {ts : List (List Value)} (h : TextsV w (bk al) n vs ts) (hal : ∀ x, x ∈ bk al → x < w.heap.size)
    (hu1 : Upd [] w w1) {ax : Option Addr} {cx : Nat} {t : List Value} (hx : View w1 1 ax t.length t) (hx1 : AllBytes t) (hin : In [] w.heap.size ax) (hlt : ∀ x, x ∈ bk ax → x < w1.heap.size)
    (hu2 : Upd (bk al) w1 w2) (hi2 : In (bk al) w1.heap.size al') : TextsV w2 (bk al') (n + 1) (vs ++ [.slice ax t.length cx]) (ts ++ [t]) := by
  have hl := h.len
  have ht := h.lent
  refine ⟨by simp [hl], by simp [ht], fun k hk => ?_⟩
  by_cases hlt' : k < n
  · obtain ⟨ay, cy, h1, h2, h3, h4⟩ := h.at_ k hlt'
    have e : (ts ++ [t])[k]'(by simp; omega) = ts[k]'(by omega) := List.getElem_append_left (by omega)
    rw [e]
    refine ⟨ay, cy, by rw [List.getElem?_append_left (by omega)]; exact h1, ?_, h3, fun x hx' => ⟨fun hg => ?_, Nat.lt_of_lt_of_le (h4 x hx').2 (Nat.le_trans hu1.size hu2.size)⟩⟩
    · exact (h2.upd hu1 (by simp)).upd hu2 (fun x hx' => (h4 x hx').1)
    · rcases hi2 x hg with h5 | h5
      · exact (h4 x hx').1 h5
      · have := (h4 x hx').2; have := hu1.size; omega
  · obtain rfl : k = n := by omega
    have hne : ∀ x, x ∈ bk ax → x ∉ bk al := fun x hx' hg => by
      rcases hin x hx' with h5 | h5
      · simp at h5
      · have := hal x hg; omega
    have e : (ts ++ [t])[k]'(by simp; omega) = t := by rw [List.getElem_append_right (by omega)]; simp [ht]
    rw [e]
    refine ⟨ax, cx, by rw [List.getElem?_append_right (by omega)]; simp [hl], hx.upd hu2 hne, hx1, fun x hx' => ⟨fun hg => ?_, Nat.lt_of_lt_of_le (hlt x hx') hu2.size⟩⟩
    rcases hi2 x hg with h5 | h5
    · exact hne x hx' h5
    · have := hlt x hx'; omega
set_option maxRecDepth 100000 in
set_option maxHeartbeats 1000000 in
theorem STEncode_0 (s : Int) (ar : Option Addr) (n c : Nat) (vs : List Value) (ts : List (List Value)) (w : World) (hr : View w 1 ar n vs) (hT : TextsV w [] n vs ts) (h1 : Short ts) (hn : n ≤ 1000) :
    Calls Tryz.prog 11 #[.agg #[.int .i64 0, .int .i64 s], .slice ar n c] w (Made w (encS ts).length (encS ts)) := by
  have htl := hT.lent
  have htot : ∀ k, tot (ts.take k) ≤ 1000 * 127 := fun k => by
    have h2 : ∀ (l : List (List Value)), (∀ t ∈ l, t.length < 128) → tot l ≤ l.length * 127 := by
      intro l
      induction l with
      | nil => intro _; simp [tot]
      | cons a l ih =>
        intro hl
        have h3 := ih (fun t ht => hl t (by simp [ht]))
        have h4 := hl a (by simp)
        have h5 : tot (a :: l) = a.length + tot l := by simp [tot]
        rw [h5, List.length_cons, Nat.succ_mul]; omega
    have h6 := h2 (ts.take k) (fun t ht => (h1 t (List.mem_of_mem_take ht)).1)
    have h7 : (ts.take k).length ≤ 1000 := by rw [List.length_take]; omega
    have h8 := Nat.mul_le_mul_right 127 h7
    omega
  go_enter Tryz.func11, Tryz.ntmps11
  go_wp2_with (first
    | (go_at_call 31; (refine (colT_0 s _).mono ?_); rintro e w1 ⟨rfl, rfl⟩))
  obtain ⟨k1, u1, s1⟩ := alloc_facts w (Obj.cells #[.int .i64 0, .int .i64 s] 24)
  obtain ⟨k2, u2, s2⟩ := alloc_facts (w.alloc (Obj.cells #[.int .i64 0, .int .i64 s] 24)) (Obj.cells #[.int .i64 0, .int .i64 s] 24)
  have u12 := u1.trans u2 (fun _ h => .inl h)
  have hh := StrCol.new ((w.alloc (Obj.cells #[.int .i64 0, .int .i64 s] 24)).alloc (Obj.cells #[.int .i64 0, .int .i64 s] 24))
  have u3 := u12.alloc (Obj.cells #[.slice none 0 0, .slice none 0 0] 90)
  rw [s2, s1] at hh
  generalize ((w.alloc (Obj.cells #[.int .i64 0, .int .i64 s] 24)).alloc (Obj.cells #[.int .i64 0, .int .i64 s] 24)).alloc (Obj.cells #[.slice none 0 0, .slice none 0 0] 90) = W at *
  clear k1 u1 s1 k2 u2 s2 u12
  have hm := methA_S (w.heap.size + 1 + 1)
  go_loopw [14] (fun i wr => ∃ (k : Nat) (F : List Nat), k ≤ n ∧ i = .int .i64 k ∧ StrCol wr (w.heap.size + 1 + 1) F (ts.take k) ∧ Upd [] w wr ∧ (∀ x, x ∈ F → w.heap.size ≤ x))
    (fun i _ => n - (intOf i).toNat)
  case atStart => exact ⟨0, _, Nat.zero_le _, rfl, hh, u3, fun x hx => by simp at hx; omega⟩
  case round =>
    obtain ⟨k, F, hk, rfl, hC, hU, hF⟩ := hrel
    have htk := htot k
    have hlk : (ts.take k).length ≤ 10000 := by rw [List.length_take]; omega
    by_cases hlt : k < n
    · have hk0 : ((k : Int) < n) := by omega
      obtain ⟨b, o, rfl, hrr, hbb⟩ := hr.at_ (by omega)
      obtain ⟨ax, cx, hv1, hv2, hv3, hv4⟩ := hT.at_ k hlt
      obtain ⟨t, ht⟩ : ∃ t, t = ts[k]'(by omega) := ⟨_, rfl⟩
      rw [← ht] at hv1 hv2 hv3
      have htlen : t.length < 128 := by rw [ht]; exact (h1 _ (List.getElem_mem _)).1
      have HT := Lib.hid ht
      clear ht
      have hcell : wr.cell? ⟨b, o + k, none⟩ = some (.slice ax t.length cx) := by rw [hU.cell hbb (by simp)]; exact hrr k _ hv1
      have hx := hv2.upd hU (by simp)
      have HK := Lib.hid htk
      clear htk
      go_wp2_with (first
        | (go_at_call 336; (with_reducible refine (addT_S _ F (ts.take k) _ _ _ t _ hx hv3 hC (by omega) hlk (by have := HK.out; omega)).mono ?_); rintro e w2 ⟨rfl, F2, hC2, hU2, hG2⟩))
      have hUx : Upd [] w w2 := hU.trans hU2 (fun y hy => .inr (hF y hy))
      have hFx : ∀ x, x ∈ F2 → w.heap.size ≤ x := fun x hx => (hG2 x hx).elim (hF x) (Nat.le_trans hU.size)
      have hCx : StrCol w2 (w.heap.size + 1 + 1) F2 (ts.take (k + 1)) := by
        rw [List.take_succ_eq_append_getElem (by omega), ← HT.out]
        exact hC2
      clear hC2 hU2 hG2
      go_roundw
      case rel => exact ⟨k + 1, F2, by omega, by go_num, hCx, hUx, hFx⟩
      case measure => simp [intOf]; omega
    · have hk0 : n ≤ k := by omega
      obtain rfl : k = n := by omega
      rw [List.take_of_length_le (by omega)] at hC htk
      go_wp2_with (first
        | (go_at_call 30; (refine (enc_S _ F ts _ hC h1 (by omega) (by omega)).mono ?_); rintro e w3 ⟨ao3, c3, rfl, hR3, hU3, hI3⟩))
      go_ret
      exact ⟨ao3, c3, rfl, hR3, hU.trans hU3 (fun _ h => .inl h), hI3.le hU.size⟩
end Go.Proofs.YtpehfhdacgjmpaaGreat
