/- FnXNulls: the walk of the law. -/
import Derived.Test.YtpehfhdacgjmpaaGreatNullIn
import Derived.Test.YtpehfhdacgjmpaaGreatDrawn2
import Derived.Great.BuildSlice
namespace Go.Proofs.YtpehfhdacgjmpaaGreat
open Go Go.RowKit
theorem TextsV.snoc3 {w w2 : World} {n : Nat} {F F' G : List Nat} {vs : List Value} {ts : List (List Value)} (h : TextsV w F n vs ts) {ax : Option Addr} {cx : Nat} {t : List Value} (hx : View w 1 ax t.length t) (hx1 : AllBytes t)
    (hne : ∀ x, x ∈ bk ax → x ∉ F) (hlt : ∀ x, x ∈ bk ax → x < w.heap.size) (hu2 : Upd G w w2) (hG : ∀ x, x ∈ G → x ∈ F) (hF : ∀ x, x ∈ F' → x ∈ F ∨ w.heap.size ≤ x) : TextsV w2 F' (n + 1) (vs ++ [.slice ax t.length cx]) (ts ++ [t]) := by
  have hl := h.len
  have ht := h.lent
  refine ⟨by simp [hl], by simp [ht], fun k hk => ?_⟩
  by_cases hlt' : k < n
  · obtain ⟨ay, cy, h1, h2, h3, h4⟩ := h.at_ k hlt'
    have e : (ts ++ [t])[k]'(by simp; omega) = ts[k]'(by omega) := List.getElem_append_left (by omega)
    rw [e]
    refine ⟨ay, cy, by rw [List.getElem?_append_left (by omega)]; exact h1, h2.upd hu2 (fun x hx' hg => (h4 x hx').1 (hG x hg)), h3, fun x hx' => ⟨fun hg => ?_, Nat.lt_of_lt_of_le (h4 x hx').2 hu2.size⟩⟩
    rcases hF x hg with h5 | h5
    · exact (h4 x hx').1 h5
    · have := (h4 x hx').2; omega
  · obtain rfl : k = n := by omega
    have e : (ts ++ [t])[k]'(by simp; omega) = t := by rw [List.getElem_append_right (by omega)]; simp [ht]
    rw [e]
    refine ⟨ax, cx, by rw [List.getElem?_append_right (by omega)]; simp [hl], hx.upd hu2 (fun x hx' hg => hne x hx' (hG x hg)), hx1, fun x hx' => ⟨fun hg => ?_, Nat.lt_of_lt_of_le (hlt x hx') hu2.size⟩⟩
    rcases hF x hg with h5 | h5
    · exact hne x hx' h5
    · have := hlt x hx'; omega
theorem FlatSt.keep {w wr W : World} {al ae : Option Addr} {A k cl ce : Nat} {vs : List Value} {ts : List (List Value)} {es : List R4} (h : FlatSt w wr al A cl vs ts ae k ce es) (hu : Upd [] wr W) : FlatSt w W al A cl vs ts ae k ce es :=
  ⟨h.all.upd hu (by simp), h.txt.upd hu (by simp), h.ends.upd hu (by simp), h.sep, h.ia, h.ie, h.upd.trans hu (by simp)⟩
theorem FlatSt.next {w wr wm w2 : World} {al al1 ae ae1 ax : Option Addr} {A k cl cl1 ce ce1 cx : Nat} {vs : List Value} {ts : List (List Value)} {es : List R4} {r : R4} {t : List Value} (hF : FlatSt w wr al A cl vs ts ae k ce es)
    (hu : Upd (bk ae) wr wm) (he : Row wm 28 4 ae1 (k + 1) ce1 (es.flatMap R4.cells ++ r.cells)) (hie : In (bk ae) wr.heap.size ae1)
    (hx : View wm 1 ax t.length t) (hx1 : AllBytes t) (hax : ∀ x, x ∈ bk ax → wr.heap.size ≤ x ∧ x < wm.heap.size ∧ x ∉ bk ae1)
    (ha : Row w2 29 1 al1 (A + 1) cl1 (vs ++ [.slice ax t.length cx])) (hu2 : Upd (bk al) wm w2) (hia : In (bk al) wm.heap.size al1) :
    FlatSt w w2 al1 (A + 1) cl1 (vs ++ [.slice ax t.length cx]) (ts ++ [t]) ae1 (k + 1) ce1 (es ++ [r]) := by
  have hA := hF.all.lt
  have hE := hF.ends.lt
  have hM := he.lt
  have hsep1 : ∀ x, x ∈ bk al → x ∉ bk ae1 := fun x h h' => (hie x h').elim (hF.sep x h) (fun h2 => by have := hA x h; omega)
  refine ⟨ha, ?_, ?_, ?_, ?_, ?_, ?_⟩
  · have h1 := hF.txt.mono (G := bk al ++ bk ae ++ bk ae1) (fun x hx hlt => (List.mem_append.1 hx).elim id (fun h => (hie x h).elim (List.mem_append_right _) (fun h => by omega)))
    have h2 := h1.upd hu (fun x hx _ => List.mem_append_left _ (List.mem_append_right _ hx))
    have h3 := h2.mono (G := bk al ++ bk ae1) (fun x hx _ => (List.mem_append.1 hx).elim (fun h => List.mem_append_left _ (List.mem_append_left _ h)) (List.mem_append_right _))
    exact h3.snoc3 hx hx1 (fun x hx' hg => (List.mem_append.1 hg).elim (fun h => by have := (hax x hx').1; have := hA x h; omega) (hax x hx').2.2) (fun x hx' => (hax x hx').2.1) hu2 (fun x h => List.mem_append_left _ h)
      (fun x h => (List.mem_append.1 h).elim (fun h => (hia x h).imp (List.mem_append_left _) id) (fun h => .inl (List.mem_append_right _ h)))
  · rw [List.flatMap_append]
    simpa using he.upd hu2 (fun x h h' => hsep1 x h' h)
  · exact fun x h h' => (hia x h).elim (fun h2 => hsep1 x h2 h') (fun h2 => by have := hM x h'; omega)
  · exact hF.ia.step hia (Nat.le_trans hF.upd.size hu.size)
  · exact hF.ie.step hie hF.upd.size
  · exact (hF.upd.trans hu (fun y hy => (hF.ie y hy).elim (fun h => by simp at h) .inr)).trans hu2 (fun y hy => (hF.ia y hy).elim (fun h => by simp at h) (fun h => .inr h))

/-! ### the region that lays a row and a text in whatever order -/
/-- the row on its way into the rows -/
def RowIn (W : World) (ae : Option Addr) (k ce : Nat) (es : List R4) (r : R4) : List Value → World → Prop
  | [], w => Row w 28 4 ae k ce (es.flatMap R4.cells)
  | [v], w => Row w 28 4 ae k ce (es.flatMap R4.cells) ∧ ∃ x, v = .slice (some ⟨x, 0, none⟩) 1 1 ∧ w.heap[x]? = some (.cells r.cells.toArray 28 (0, 0)) ∧ W.heap.size ≤ x
  | [_, v], w => ∃ ae1 ce1, v = .slice ae1 (k + 1) ce1 ∧ Row w 28 4 ae1 (k + 1) ce1 (es.flatMap R4.cells ++ r.cells) ∧ In (bk ae) W.heap.size ae1
  | _, _ => False
theorem RowIn.keep {W w w' : World} {ae : Option Addr} {k ce : Nat} {es : List R4} {r : R4} {l : List Value} (h : RowIn W ae k ce es r l w) (hu : Upd [] w w') : RowIn W ae k ce es r l w' := by
  match l, h with
  | [], h => exact Row.upd h hu (by simp)
  | [v], ⟨h, x, h1, h2, h3⟩ => exact ⟨h.upd hu (by simp), x, h1, hu.at h2 (by simp), h3⟩
  | [_, v], ⟨a, c, h1, h2, h3⟩ => exact ⟨a, c, h1, h2.upd hu (by simp), h3⟩
/-- a string's bytes, new -/
def NewText (W : World) (s : ByteArray) (v : Value) (w : World) : Prop := ∃ g cs, v = .slice (some ⟨g, 0, none⟩) s.size cs ∧ View w 1 (some ⟨g, 0, none⟩) s.size (byteCells s) ∧ W.heap.size ≤ g ∧ g < w.heap.size
theorem NewText.upd {W w w' : World} {s : ByteArray} {v : Value} {G : List Nat} (h : NewText W s v w) (hu : Upd G w w') (hG : ∀ x, x ∈ G → x < W.heap.size) : NewText W s v w' := by
  obtain ⟨g, cs, h1, h2, h3, h4⟩ := h
  exact ⟨g, cs, h1, h2.upd hu (fun x hx hx' => by have := hG x hx'; simp at hx; omega), h3, Nat.lt_of_lt_of_le h4 hu.size⟩
/-- the text on its way -/
def TextIn (W : World) (s : ByteArray) : List Value → World → Prop
  | [], _ => True
  | [v], w => NewText W s v w
  | [v, u], w => NewText W s v w ∧ ∃ y, u = .slice (some ⟨y, 0, none⟩) 1 1 ∧ w.heap[y]? = some (.cells #[v] 29 (0, 0)) ∧ W.heap.size ≤ y
  | _, _ => False
theorem TextIn.upd {W w w' : World} {s : ByteArray} {l : List Value} {G : List Nat} (h : TextIn W s l w) (hu : Upd G w w') (hG : ∀ x, x ∈ G → x < W.heap.size) : TextIn W s l w' := by
  match l, h with
  | [], _ => trivial
  | [v], h => exact NewText.upd h hu hG
  | [v, u], ⟨h, y, h1, h2, h3⟩ => exact ⟨h.upd hu hG, y, h1, hu.at h2 (fun hx => by have := hG y hx; omega), h3⟩
/-- the text's block is none of the rows' -/
def RowText : List Value → List Value → Prop
  | [_, .slice ao _ _], .slice (some a) _ _ :: _ => a.block ∉ bk ao
  | _, _ => True
theorem step_bytes {P : Program} {ops : Array Oper} {o : Oper} {a : Act} {K : Act → World → Prop} {Q : Exit → Act → World → Prop} {E : Prop} (w : World) (hg : o.guard = none) (src dst e : TypeId) (x : Operand) (ho : o.op = .convert src dst x)
    (hs : P.underlying src = some .string) (hd : P.underlying dst = some (.slice e)) (he : P.underlying e = some (.int .u8)) (s : ByteArray) (hx : a.eval x = .string s)
    (h : ∀ c' w', View w' 1 (some ⟨w.heap.size, 0, none⟩) s.size (byteCells s) → Upd [] w w' → w.heap.size < w'.heap.size → K (a.put o.dst (.slice (some ⟨w.heap.size, 0, none⟩) s.size c')) w') :
    if Region.wanted o (yielded ops a.tmps) = true then Oper.wp P o a w K Q else E := by
  have hw : Region.wanted o (yielded ops a.tmps) = true := by simp [Region.wanted, hg]
  rw [if_pos hw]
  have hr := run_bytes_of_string (P := P) w src dst e s hs hd he
  unfold Oper.wp execOp
  simp only [ho, hx, Sem.run_bind, hr, Result.andThen_ok, Sem.run_pure]
  refine h _ _ ⟨?_, fun hn => ⟨_, _, rfl, fun j v hj => ?_, by simp⟩⟩ ((Upd.refl [] w).drew.alloc _) (by simp)
  · simp [byteCells]
  · have hb : (w.drew.alloc (.cells (bytesRow s (grownCap w s.size 0 e)) e ((bytesRow s (grownCap w s.size 0 e)).size, (bytesRow s (grownCap w s.size 0 e)).size + 1))).heap[w.heap.size]? = some (.cells (bytesRow s (grownCap w s.size 0 e)) e ((bytesRow s (grownCap w s.size 0 e)).size, (bytesRow s (grownCap w s.size 0 e)).size + 1)) := heap_alloc_new w.drew _
    have hj' : (bytesRow s (grownCap w s.size 0 e))[j]? = some v := by
      have hlt : j < (byteCells s).length := (List.getElem?_eq_some_iff.1 hj).1
      unfold bytesRow
      rw [Array.getElem?_append_left (by simpa [byteCells] using hlt), ← Array.getElem?_toList, Array.toList_map]
      exact hj
    simp only [World.cell?, hb, Nat.zero_add]
    exact hj'
theorem step_build {P : Program} {ops : Array Oper} {o : Oper} {a : Act} {K : Act → World → Prop} {Q : Exit → Act → World → Prop} {E : Prop} (w : World) (hg : o.guard = none) (t e : TypeId) (x : Operand) (ho : o.op = .buildSlice t 1 #[(0, x)])
    {v z : Value} {size bytes : Nat} (hx : a.eval x = v) (cells : Array Value) (hu : P.underlying t = some (.slice e)) (hinfo : (P.info? e).map (fun i => (i.zero, i.size, i.bytes)) = some (some z, size, bytes)) (h0 : 0 < size) (hs : size ≤ 1000)
    (hf : Instr.fill (fun i => some (i * size, size)) ((Array.range (1 * size)).map (z.cells[· % z.cells.size]!)) [(0, v)] = some cells)
    (h : K (a.put o.dst (.slice (some ⟨w.heap.size, 0, none⟩) 1 1)) (w.alloc (.cells cells e))) :
    if Region.wanted o (yielded ops a.tmps) = true then Oper.wp P o a w K Q else E := by
  have hw : Region.wanted o (yielded ops a.tmps) = true := by simp [Region.wanted, hg]
  rw [if_pos hw]
  cases hie : P.info? e with
  | none => simp [hie] at hinfo
  | some ie =>
    simp only [hie, Option.map_some, Option.some.injEq, Prod.mk.injEq] at hinfo
    obtain ⟨h1, rfl, _⟩ := hinfo
    refine wp_buildSlice t e 1 _ ho cells ie z hu hie h1 (by omega) (by omega) ?_ h
    subst hx
    refine Eq.trans (congrArg (Instr.fill _ _) ?_) hf
    simp
theorem yields_text {ops : Array Oper} {S : World → Prop} {o : Oper} {a : Act} (hg : o.guard = none) (x : Operand) (ho : o.op = .convert 29 9 x) {ao : Option Addr} {n c : Nat} {bs : List Value} (hx : a.eval x = .slice ao n c) (hb : AllBytes bs) (hv : ∀ w, S w → View w 1 ao n bs) :
    YieldsIf Tryz.prog ops S o (.string (strOf bs)) a :=
  .inl ⟨by simp [Region.wanted, hg], fun w hS => by
    have hr := run_text ao n c bs w (hv w hS) hb
    unfold execOp
    simp only [ho, hx, Sem.run_bind, hr, Result.andThen_ok, Sem.run_pure]⟩

/-! ### the law -/
def mask_of (m : Bool × ByteArray) : R4 := if m.1 then ⟨0, 0, 0, 0⟩ else ⟨1, 0, 0, 0⟩
def text0 (m : Bool × ByteArray) : List Value := if m.1 then byteCells m.2 else []
theorem text0_bytes (m : Bool × ByteArray) : AllBytes (text0 m) := by
  unfold text0
  split
  · exact byteCells_all _
  · exact AllBytes.nil
/-- a row as it is encoded: a null's text is empty -/
def own_of (m : Bool × ByteArray) : Bool × ByteArray := (m.1, strOf (text0 m))
theorem own_texts (ms : List (Bool × ByteArray)) : texts_of (ms.map own_of) = ms.map text0 := by
  simp only [texts_of, List.map_map]
  exact List.map_congr_left (fun m _ => strOf_cells _ (text0_bytes m))
theorem own_nulls (ms : List (Bool × ByteArray)) : nulls_of (ms.map own_of) = (ms.map mask_of).map conv_u8 := by
  simp only [nulls_of, List.map_map]
  refine List.map_congr_left (fun m _ => ?_)
  obtain ⟨b, s⟩ := m
  cases b <;> rfl
theorem own_size (ms : List (Bool × ByteArray)) (h : ∀ s ∈ ms, s.2.size ≤ 60) : ∀ s ∈ ms.map own_of, s.2.size ≤ 60 := fun s hs => by
  obtain ⟨m, hm, rfl⟩ := List.mem_map.1 hs
  have h1 := h m hm
  show (strOf (text0 m)).size ≤ 60
  rw [strOf_size _ (text0_bytes m)]
  unfold text0
  split
  · rw [byteCells_len]; exact h1
  · simp
theorem text0_len (m : Bool × ByteArray) (h : m.2.size ≤ 60) : (text0 m).length ≤ 60 := by
  unfold text0
  split
  · rw [byteCells_len]; exact h
  · simp
theorem Tryz.info48 : (Tryz.prog.info? 48).map (fun i => (i.zero, i.size, i.bytes)) = some (some (.agg #[.bool false, .string ⟨#[]⟩]), 2, 24) := by kernel_rfl
end Go.Proofs.YtpehfhdacgjmpaaGreat
