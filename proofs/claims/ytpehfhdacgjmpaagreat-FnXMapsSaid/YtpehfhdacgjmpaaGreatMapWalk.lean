/- FnXMaps: the guards, what the law has in hand. -/
import Derived.Test.YtpehfhdacgjmpaaGreatMapIn
import Derived.Test.YtpehfhdacgjmpaaGreatNullWalk
import Derived.Test.YtpehfhdacgjmpaaGreatTupLaw
namespace Go.Proofs.YtpehfhdacgjmpaaGreat
open Go Go.RowKit
set_option maxRecDepth 100000 in
set_option maxHeartbeats 1000000 in
theorem IndexFuncM (ar : Option Addr) (n c : Nat) (ms : List Pr) (g : Nat) (k2 s2 : ByteArray) (w : World) (hv : View w 2 ar n (ms.flatMap cells_M)) (hn : n ≤ 1000) (hg : w.heap[g]? = some (.cells #[.string k2, .string s2] 60 (0, 0))) :
    Calls Tryz.prog 51 #[.slice ar n c, .func (Fn.func 27) #[] #[.pointer (some ⟨g, 0, none⟩)]] w fun e w' => (∃ i : Int, e = .returned (.int .i64 i)) ∧ Upd [] w w' := by
  have hml : ms.length = n := by have := hv.len; rw [flatMap_len _ 2 cells_M_len] at this; omega
  go_enter Tryz.func51, Tryz.ntmps51
  go_wp2
  go_loopw [8] (fun i wr => ∃ k : Nat, k ≤ n ∧ i = .int .i64 k ∧ Upd [] w wr)
    (fun i _ => n - (intOf i).toNat)
  case atStart => exact ⟨0, Nat.zero_le _, rfl, Upd.refl _ _⟩
  case round =>
    obtain ⟨k, hk, rfl, hU⟩ := hrel
    by_cases hlt : k < n
    · have hk0 : ((k : Int) < n) := by omega
      obtain ⟨b, o, rfl, hrr, hbb⟩ := hv.at_ (by omega)
      obtain ⟨m, hx⟩ : ∃ m, m = ms[k]'(by omega) := ⟨_, rfl⟩
      obtain ⟨d0, d1⟩ := two_M hrr hbb hU (by simp) k hlt hml hx
      have hgr := hU.at hg (by simp)
      clear hx
      obtain ⟨mk, mt⟩ := m
      simp only at d0 d1
      go_wp2_with (go_at_call 27; (refine (sameKey g mk mt k2 s2 _ hgr).mono ?_); rintro e w2 ⟨⟨b, rfl⟩, hu2⟩; have hU2 := hU.trans hu2 (by simp); cases b)
      · go_roundw
        case rel => exact ⟨k + 1, by omega, by go_num, hU2⟩
        case measure => simp [intOf]; omega
      · go_ret
        exact ⟨⟨_, rfl⟩, hU2⟩
    · have hk0 : n ≤ k := by omega
      obtain rfl : k = n := by omega
      go_wp2
      go_ret
      exact ⟨⟨_, rfl⟩, hU⟩
set_option maxRecDepth 100000 in
set_option maxHeartbeats 400000 in
theorem ContainsM (ar : Option Addr) (n c : Nat) (ms : List Pr) (g : Nat) (k2 s2 : ByteArray) (w : World) (hv : View w 2 ar n (ms.flatMap cells_M)) (hn : n ≤ 1000) (hg : w.heap[g]? = some (.cells #[.string k2, .string s2] 60 (0, 0))) :
    Calls Tryz.prog 26 #[.slice ar n c, .func (Fn.func 27) #[] #[.pointer (some ⟨g, 0, none⟩)]] w fun e w' => (∃ b, e = .returned (.bool b)) ∧ Upd [] w w' := by
  go_enter Tryz.func26, Tryz.ntmps26
  go_wp2_with (go_at_call 51; (refine (IndexFuncM ar n c ms g k2 s2 _ hv hn hg).mono ?_); rintro e w2 ⟨⟨i, rfl⟩, hu2⟩)
  go_ret
  exact ⟨⟨_, rfl⟩, hu2⟩
theorem View.head {w : World} {ao : Option Addr} {n : Nat} {ms : List Pr} (h : View w 2 ao n (ms.flatMap cells_M)) (k : Nat) (hk : k ≤ n) : View w 2 ao k ((ms.take k).flatMap cells_M) := by
  have hml : ms.length = n := by have := h.len; rw [flatMap_len _ 2 cells_M_len] at this; omega
  refine ⟨by rw [flatMap_len _ 2 cells_M_len, List.length_take]; congr 1; omega, fun h0 => ?_⟩
  obtain ⟨b, o, rfl, hr, hb⟩ := h.at_ (by omega)
  refine ⟨b, o, rfl, fun j v hj => hr j v ?_, hb⟩
  have e : ms.flatMap cells_M = (ms.take k).flatMap cells_M ++ (ms.drop k).flatMap cells_M := by rw [← List.flatMap_append, List.take_append_drop]
  rw [e, List.getElem?_append_left ((List.getElem?_eq_some_iff.1 hj).1)]
  exact hj

/-- what the law has in hand: keys, values, where rows end -/
structure MapSt (w wr : World) (al av ae : Option Addr) (A k cl cv ce : Nat) (vk vv : List Value) (ks vs : List (List Value)) (es : List R4) : Prop where
  K : Row wr 29 1 al A cl vk
  V : Row wr 29 1 av A cv vv
  E : Row wr 28 4 ae k ce (es.flatMap R4.cells)
  tk : TextsV wr (bk al ++ (bk av ++ bk ae)) A vk ks
  tv : TextsV wr (bk al ++ (bk av ++ bk ae)) A vv vs
  sep : ∀ x, x ∈ bk al → x ∉ bk av
  ik : In [] w.heap.size al
  iv : In [] w.heap.size av
  ie : In [] w.heap.size ae
  upd : Upd [] w wr
theorem MapSt.keep {w wr W : World} {al av ae : Option Addr} {A k cl cv ce : Nat} {vk vv : List Value} {ks vs : List (List Value)} {es : List R4} (h : MapSt w wr al av ae A k cl cv ce vk vv ks vs es) (hu : Upd [] wr W) : MapSt w W al av ae A k cl cv ce vk vv ks vs es :=
  ⟨h.K.upd hu (by simp), h.V.upd hu (by simp), h.E.upd hu (by simp), h.tk.upd hu (by simp), h.tv.upd hu (by simp), h.sep, h.ik, h.iv, h.ie, h.upd.trans hu (by simp)⟩
/-- one pair more -/
theorem MapSt.next {w wr wm w2 : World} {al al1 av av1 ae : Option Addr} {A k cl cl1 cv cv1 ce ck cx gk gv : Nat} {vk vv : List Value} {ks vs : List (List Value)} {es : List R4} {s t : ByteArray} (h : MapSt w wr al av ae A k cl cv ce vk vv ks vs es)
    (hu : Upd (bk al) wr wm) (hK : Row wm 29 1 al1 (A + 1) cl1 (vk ++ [.slice (some ⟨gk, 0, none⟩) s.size ck])) (hik : In (bk al) wr.heap.size al1)
    (hs : View wm 1 (some ⟨gk, 0, none⟩) s.size (byteCells s)) (hgk : wr.heap.size ≤ gk ∧ gk < wm.heap.size ∧ gk ∉ bk al1)
    (ht : View wm 1 (some ⟨gv, 0, none⟩) t.size (byteCells t)) (hgv : wr.heap.size ≤ gv ∧ gv < wm.heap.size ∧ gv ∉ bk al1)
    (hV : Row w2 29 1 av1 (A + 1) cv1 (vv ++ [.slice (some ⟨gv, 0, none⟩) t.size cx])) (hu2 : Upd (bk av) wm w2) (hiv : In (bk av) wm.heap.size av1) :
    MapSt w w2 al1 av1 ae (A + 1) k cl1 cv1 ce (vk ++ [.slice (some ⟨gk, 0, none⟩) s.size ck]) (vv ++ [.slice (some ⟨gv, 0, none⟩) t.size cx]) (ks ++ [byteCells s]) (vs ++ [byteCells t]) es := by
  have lA := h.K.lt
  have lV := h.V.lt
  have lE := h.E.lt
  have lK := hK.lt
  have sep1 : ∀ x, x ∈ bk al1 → x ∉ bk av := fun x hx hx' => (hik x hx).elim (fun h1 => h.sep x h1 hx') (fun h1 => by have := lV x hx'; omega)
  have hEm : Row wm 28 4 ae k ce (es.flatMap R4.cells) := h.E.upd hu (h.E.apart h.K (by decide))
  have hVm : Row wm 29 1 av A cv vv := h.V.upd hu (fun x hx hx' => h.sep x hx' hx)
  have k1 : TextsV wm (bk al1 ++ (bk av ++ bk ae)) A vk ks := h.tk.app hu (fun x hx => by simp [hx]) hik (fun x hx => by simp only [List.mem_append] at hx ⊢; rcases hx with h | h | h <;> simp [h])
  have v1 : TextsV wm (bk al1 ++ (bk av ++ bk ae)) A vv vs := h.tv.app hu (fun x hx => by simp [hx]) hik (fun x hx => by simp only [List.mem_append] at hx ⊢; rcases hx with h | h | h <;> simp [h])
  have out : ∀ g, wr.heap.size ≤ g → g ∉ bk al1 → g ∉ bk al1 ++ (bk av ++ bk ae) := fun g hg h1 hx => by
    simp only [List.mem_append] at hx
    rcases hx with hx | hx | hx
    · exact h1 hx
    · have := lV _ hx; omega
    · have := lE _ hx; omega
  have hF : ∀ x, x ∈ bk al1 ++ (bk av1 ++ bk ae) → x ∈ bk al1 ++ (bk av ++ bk ae) ∨ wm.heap.size ≤ x := fun x hx => by
    simp only [List.mem_append] at hx ⊢
    rcases hx with hx | hx | hx
    · exact .inl (.inl hx)
    · exact (hiv x hx).imp (fun h => .inr (.inl h)) id
    · exact .inl (.inr (.inr hx))
  have k2 := k1.snoc3 (ax := some ⟨gk, 0, none⟩) (cx := ck) (t := byteCells s) (F' := bk al1 ++ (bk av1 ++ bk ae)) (by rw [byteCells_len]; exact hs) (byteCells_all s) (fun x hx => by simp at hx; rw [hx]; exact out gk hgk.1 hgk.2.2) (fun x hx => by simp at hx; omega) hu2 (fun x hx => by simp [hx]) hF
  have v2 := v1.snoc3 (ax := some ⟨gv, 0, none⟩) (cx := cx) (t := byteCells t) (F' := bk al1 ++ (bk av1 ++ bk ae)) (by rw [byteCells_len]; exact ht) (byteCells_all t) (fun x hx => by simp at hx; rw [hx]; exact out gv hgv.1 hgv.2.2) (fun x hx => by simp at hx; omega) hu2 (fun x hx => by simp [hx]) hF
  rw [byteCells_len] at k2 v2
  have U1 : Upd [] w wm := h.upd.trans hu (fun y hy => (h.ik y hy).elim (fun h => by simp at h) .inr)
  exact ⟨hK.upd hu2 sep1, hV, hEm.upd hu2 (hEm.apart hVm (by decide)), k2, v2, fun x hx hx' => (hiv x hx').elim (sep1 x hx) (fun h1 => by have := lK x hx; omega), h.ik.step hik h.upd.size, h.iv.step hiv U1.size, h.ie, U1.trans hu2 (fun y hy => (h.iv y hy).elim (fun h => by simp at h) .inr)⟩
/-- one row more -/
theorem MapSt.row {w wr w2 : World} {al av ae ae1 : Option Addr} {A k cl cv ce ce1 : Nat} {vk vv : List Value} {ks vs : List (List Value)} {es : List R4} {r : R4} (h : MapSt w wr al av ae A k cl cv ce vk vv ks vs es)
    (hE : Row w2 28 4 ae1 (k + 1) ce1 (es.flatMap R4.cells ++ r.cells)) (hu : Upd (bk ae) wr w2) (hie : In (bk ae) wr.heap.size ae1) : MapSt w w2 al av ae1 A (k + 1) cl cv ce1 vk vv ks vs (es ++ [r]) := by
  have hF : ∀ x, x ∈ bk al ++ (bk av ++ bk ae1) → x ∈ bk al ++ (bk av ++ bk ae) ∨ x ∈ bk ae1 := fun x hx => by simp only [List.mem_append] at hx ⊢; rcases hx with h | h | h <;> simp [h]
  exact ⟨h.K.upd hu (h.K.apart h.E (by decide)), h.V.upd hu (h.V.apart h.E (by decide)), by simpa [List.flatMap_append] using hE, h.tk.app hu (fun x hx => by simp [hx]) hie hF, h.tv.app hu (fun x hx => by simp [hx]) hie hF, h.sep, h.ik, h.iv, h.ie.step hie h.upd.size, h.upd.trans hu (fun y hy => (h.ie y hy).elim (fun h => by simp at h) .inr)⟩

/-! ### the region that lays a key and a value in whatever order -/
def KeyIn (W : World) (al : Option Addr) (A cl : Nat) (vk : List Value) (s : ByteArray) : List Value → World → Prop
  | [], w => Row w 29 1 al A cl vk
  | [v], w => Row w 29 1 al A cl vk ∧ NewText W s v w
  | [v, u], w => Row w 29 1 al A cl vk ∧ NewText W s v w ∧ ∃ y, u = .slice (some ⟨y, 0, none⟩) 1 1 ∧ w.heap[y]? = some (.cells #[v] 29 (0, 0)) ∧ W.heap.size ≤ y
  | [v, _, z], w => ∃ al1 cl1 g cs, v = .slice (some ⟨g, 0, none⟩) s.size cs ∧ View w 1 (some ⟨g, 0, none⟩) s.size (byteCells s) ∧ W.heap.size ≤ g ∧ g < w.heap.size ∧ z = .slice al1 (A + 1) cl1 ∧ Row w 29 1 al1 (A + 1) cl1 (vk ++ [v]) ∧ In (bk al) W.heap.size al1 ∧ g ∉ bk al1
  | _, _ => False
theorem KeyIn.keep {W w w' : World} {al : Option Addr} {A cl : Nat} {vk : List Value} {s : ByteArray} {l : List Value} (h : KeyIn W al A cl vk s l w) (hu : Upd [] w w') : KeyIn W al A cl vk s l w' := by
  match l, h with
  | [], h => exact Row.upd h hu (by simp)
  | [v], ⟨h, h1⟩ => exact ⟨h.upd hu (by simp), h1.upd hu (by simp)⟩
  | [v, u], ⟨h, h1, y, h2, h3, h4⟩ => exact ⟨h.upd hu (by simp), h1.upd hu (by simp), y, h2, hu.at h3 (by simp), h4⟩
  | [v, u, z], ⟨al1, cl1, g, cs, h1, h2, h3, h4, h5, h6, h7, h8⟩ => exact ⟨al1, cl1, g, cs, h1, h2.upd hu (by simp), h3, Nat.lt_of_lt_of_le h4 hu.size, h5, h6.upd hu (by simp), h7, h8⟩
/-- the value's block is none of the keys' -/
def KeyText : List Value → List Value → Prop
  | [_, _, .slice ao _ _], .slice (some a) _ _ :: _ => a.block ∉ bk ao
  | _, _ => True
end Go.Proofs.YtpehfhdacgjmpaaGreat
