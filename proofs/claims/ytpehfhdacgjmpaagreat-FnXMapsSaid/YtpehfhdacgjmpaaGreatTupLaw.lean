/- FnXTuples: it answers true. -/
import Derived.Test.YtpehfhdacgjmpaaGreatTupIn
import Derived.Test.YtpehfhdacgjmpaaGreatNullWalk
namespace Go.Proofs.YtpehfhdacgjmpaaGreat
open Go Go.RowKit
/-- rows of other elements lie in other blocks -/
theorem Row.apart {w : World} {e1 e2 : TypeId} {s1 s2 n1 n2 c1 c2 : Nat} {a1 a2 : Option Addr} {x1 x2 : List Value} (h1 : Row w e1 s1 a1 n1 c1 x1) (h2 : Row w e2 s2 a2 n2 c2 x2) (hne : e1 ≠ e2) : ∀ x, x ∈ bk a1 → x ∉ bk a2 := by
  intro x hx hx'
  rcases h1.2 with ⟨hv, _⟩ | ⟨g, cap, cur, hv, _, hg, _⟩
  · simp only [Value.slice.injEq] at hv
    rw [hv.1] at hx
    simp at hx
  · rcases h2.2 with ⟨hv2, _⟩ | ⟨g2, cap2, cur2, hv2, _, hg2, _⟩
    · simp only [Value.slice.injEq] at hv2
      rw [hv2.1] at hx'
      simp at hx'
    · simp only [Value.slice.injEq] at hv hv2
      rw [hv.1] at hx
      rw [hv2.1] at hx'
      simp at hx hx'
      subst hx
      subst hx'
      rw [hg] at hg2
      simp at hg2
      exact hne hg2.2
theorem TextsV.app {w w' : World} {n : Nat} {F F' : List Nat} {vs : List Value} {ts : List (List Value)} {a a' : Option Addr} (h : TextsV w F n vs ts) (hu : Upd (bk a) w w') (ha : ∀ x, x ∈ bk a → x ∈ F) (hi : In (bk a) w.heap.size a') (hF : ∀ x, x ∈ F' → x ∈ F ∨ x ∈ bk a') : TextsV w' F' n vs ts :=
  ⟨h.len, h.lent, fun k hk => by
    obtain ⟨ax, cx, h1, h2, h3, h4⟩ := h.at_ k hk
    exact ⟨ax, cx, h1, h2.upd hu (fun x hx hx' => (h4 x hx).1 (ha x hx')), h3, fun x hx => ⟨fun hg => (hF x hg).elim (h4 x hx).1 (fun h5 => (hi x h5).elim (fun h6 => (h4 x hx).1 (ha x h6)) (fun h6 => by have := (h4 x hx).2; omega)), Nat.lt_of_lt_of_le (h4 x hx).2 hu.size⟩⟩⟩
theorem TextsV.three {w : World} {a1 a2 a3 : Option Addr} {n1 n2 n3 c1 c2 c3 : Nat} {t1 t2 t3 : List Value} (h1 : View w 1 a1 n1 t1) (h2 : View w 1 a2 n2 t2) (h3 : View w 1 a3 n3 t3) (b1 : AllBytes t1) (b2 : AllBytes t2) (b3 : AllBytes t3)
    (l1 : ∀ x, x ∈ bk a1 → x < w.heap.size) (l2 : ∀ x, x ∈ bk a2 → x < w.heap.size) (l3 : ∀ x, x ∈ bk a3 → x < w.heap.size) : TextsV w [] 3 [.slice a1 n1 c1, .slice a2 n2 c2, .slice a3 n3 c3] [t1, t2, t3] := by
  obtain rfl : n1 = t1.length := by have := h1.len; omega
  obtain rfl : n2 = t2.length := by have := h2.len; omega
  obtain rfl : n3 = t3.length := by have := h3.len; omega
  refine ⟨rfl, rfl, fun k hk => ?_⟩
  obtain rfl | rfl | rfl : k = 0 ∨ k = 1 ∨ k = 2 := by omega
  · exact ⟨a1, c1, rfl, h1, b1, fun x hx => ⟨by simp, l1 x hx⟩⟩
  · exact ⟨a2, c2, rfl, h2, b2, fun x hx => ⟨by simp, l2 x hx⟩⟩
  · exact ⟨a3, c3, rfl, h3, b3, fun x hx => ⟨by simp, l3 x hx⟩⟩
theorem Tryz.info9 : (Tryz.prog.info? 9).map (fun i => (i.zero, i.size, i.bytes)) = some (some (.string ⟨#[]⟩), 1, 16) := by kernel_rfl
/-- the string of a row -/
def first (ss : List ByteArray) : ByteArray := ss.headD ⟨#[]⟩
/-- what the law has in hand -/
structure TupSt (w wr : World) (aa ab al ae : Option Addr) (k ca cb cl ce : Nat) (vs : List Value) (ss : List ByteArray) (bs : List Int) : Prop where
  a : Row wr 9 1 aa k ca (ss.map Value.string)
  b : Row wr 53 1 ab k cb (bs.map (Value.int .u32))
  all : Row wr 29 1 al k cl vs
  ends : Row wr 28 4 ae k ce ((bs.map endR).flatMap R4.cells)
  txt : TextsV wr (bk aa ++ (bk ab ++ (bk al ++ bk ae))) k vs (ss.map byteCells)
  ia : In [] w.heap.size aa
  ib : In [] w.heap.size ab
  il : In [] w.heap.size al
  ie : In [] w.heap.size ae
  upd : Upd [] w wr
/-- a round of the law's loop -/
theorem TupSt.next {w wr wa wb wt wl we : World} {aa ab al ae aa1 ab1 al1 ae1 : Option Addr} {k ca cb cl ce ca1 cb1 cl1 ce1 cs : Nat} {vs : List Value} {ss : List ByteArray} {bs : List Int} {s : ByteArray} {x : Int} (h : TupSt w wr aa ab al ae k ca cb cl ce vs ss bs)
    (ra : Row wa 9 1 aa1 (k + 1) ca1 (ss.map Value.string ++ [.string s])) (ua : Upd (bk aa) wr wa) (ia : In (bk aa) wr.heap.size aa1)
    (rb : Row wb 53 1 ab1 (k + 1) cb1 (bs.map (Value.int .u32) ++ [.int .u32 x])) (ub : Upd (bk ab) wa wb) (ib : In (bk ab) wa.heap.size ab1)
    (vt : View wt 1 (some ⟨wb.heap.size, 0, none⟩) s.size (byteCells s)) (ut : Upd [] wb wt) (lt : wb.heap.size < wt.heap.size)
    (rl : Row wl 29 1 al1 (k + 1) cl1 (vs ++ [.slice (some ⟨wb.heap.size, 0, none⟩) s.size cs])) (ul : Upd (bk al) wt wl) (il : In (bk al) wt.heap.size al1)
    (re : Row we 28 4 ae1 (k + 1) ce1 ((bs.map endR).flatMap R4.cells ++ (endR x).cells)) (ue : Upd (bk ae) wl we) (ie : In (bk ae) wl.heap.size ae1) :
    TupSt w we aa1 ab1 al1 ae1 (k + 1) ca1 cb1 cl1 ce1 (vs ++ [.slice (some ⟨wb.heap.size, 0, none⟩) s.size cs]) (ss ++ [s]) (bs ++ [x]) := by
  have ub' : Row wa 53 1 ab k cb (bs.map (Value.int .u32)) := h.b.upd ua (h.b.apart h.a (by decide))
  have ul0 : Row wa 29 1 al k cl vs := h.all.upd ua (h.all.apart h.a (by decide))
  have ul1 : Row wb 29 1 al k cl vs := ul0.upd ub (ul0.apart ub' (by decide))
  have ul' : Row wt 29 1 al k cl vs := ul1.upd ut (by simp)
  have ue0 : Row wa 28 4 ae k ce ((bs.map endR).flatMap R4.cells) := h.ends.upd ua (h.ends.apart h.a (by decide))
  have ue1 : Row wb 28 4 ae k ce ((bs.map endR).flatMap R4.cells) := ue0.upd ub (ue0.apart ub' (by decide))
  have ue2 : Row wt 28 4 ae k ce ((bs.map endR).flatMap R4.cells) := ue1.upd ut (by simp)
  have ue' : Row wl 28 4 ae k ce ((bs.map endR).flatMap R4.cells) := ue2.upd ul (ue2.apart ul' (by decide))
  have ra1 : Row wb 9 1 aa1 (k + 1) ca1 _ := ra.upd ub (ra.apart ub' (by decide))
  have ra2 := ra1.upd ut (by simp)
  have ra3 := ra2.upd ul (ra2.apart ul' (by decide))
  have ra4 := ra3.upd ue (ra3.apart ue' (by decide))
  have rb2 := rb.upd ut (by simp)
  have rb3 := rb2.upd ul (rb2.apart ul' (by decide))
  have rb4 := rb3.upd ue (rb3.apart ue' (by decide))
  have rl4 := rl.upd ue (rl.apart ue' (by decide))
  have t1 : TextsV wa (bk aa1 ++ (bk ab ++ (bk al ++ bk ae))) k vs (ss.map byteCells) := h.txt.app ua (fun x hx => by simp [hx]) ia (fun x hx => by simp only [List.mem_append] at hx ⊢; rcases hx with h | h | h | h <;> simp [h])
  have t2 : TextsV wb (bk aa1 ++ (bk ab1 ++ (bk al ++ bk ae))) k vs (ss.map byteCells) := t1.app ub (fun x hx => by simp [hx]) ib (fun x hx => by simp only [List.mem_append] at hx ⊢; rcases hx with h | h | h | h <;> simp [h])
  have t3 : TextsV wt (bk aa1 ++ (bk ab1 ++ (bk al ++ bk ae))) k vs (ss.map byteCells) := t2.upd ut (by simp)
  have la := ra1.lt
  have lb := rb.lt
  have ll := ul1.lt
  have le := ue1.lt
  have hnew : wb.heap.size ∉ bk aa1 ++ (bk ab1 ++ (bk al ++ bk ae)) := fun hx => by
    simp only [List.mem_append] at hx
    rcases hx with hx | hx | hx | hx
    · have := la _ hx; omega
    · have := lb _ hx; omega
    · have := ll _ hx; omega
    · have := le _ hx; omega
  have t4 : TextsV wl (bk aa1 ++ (bk ab1 ++ (bk al1 ++ bk ae))) (k + 1) (vs ++ [.slice (some ⟨wb.heap.size, 0, none⟩) s.size cs]) (ss.map byteCells ++ [byteCells s]) := by
    have := t3.snoc3 (ax := some ⟨wb.heap.size, 0, none⟩) (cx := cs) (t := byteCells s) (F' := bk aa1 ++ (bk ab1 ++ (bk al1 ++ bk ae))) (by rw [byteCells_len]; exact vt) (byteCells_all s) (fun x hx => by simp at hx; subst hx; exact hnew) (fun x hx => by simp at hx; omega) ul (fun x hx => by simp [hx])
      (fun x hx => by
        simp only [List.mem_append] at hx ⊢
        rcases hx with hx | hx | hx | hx
        · exact .inl (.inl hx)
        · exact .inl (.inr (.inl hx))
        · exact (il x hx).imp (fun h => .inr (.inr (.inl h))) id
        · exact .inl (.inr (.inr (.inr hx))))
    rwa [byteCells_len] at this
  have t5 : TextsV we (bk aa1 ++ (bk ab1 ++ (bk al1 ++ bk ae1))) (k + 1) (vs ++ [.slice (some ⟨wb.heap.size, 0, none⟩) s.size cs]) (ss.map byteCells ++ [byteCells s]) := t4.app ue (fun x hx => by simp [hx]) ie (fun x hx => by simp only [List.mem_append] at hx ⊢; rcases hx with h | h | h | h <;> simp [h])
  have none : ∀ {v : Option Addr} {B : Nat}, In [] B v → ∀ y, y ∈ bk v → y ∈ ([] : List Nat) ∨ B ≤ y := fun h => h
  have U1 : Upd [] w wa := h.upd.trans ua (none h.ia)
  have U2 : Upd [] w wb := U1.trans ub (none h.ib)
  have U3 : Upd [] w wt := U2.trans ut (by simp)
  have U4 : Upd [] w wl := U3.trans ul (none h.il)
  have U5 : Upd [] w we := U4.trans ue (none h.ie)
  refine ⟨by simpa using ra4, by simpa using rb4, rl4, by simpa [List.flatMap_append] using re, by simpa using t5, h.ia.step ia h.upd.size, h.ib.step ib U1.size, h.il.step il U3.size, h.ie.step ie U4.size, U5⟩
end Go.Proofs.YtpehfhdacgjmpaaGreat
