/- Nullable columns of strings: Append, EncodeColumn, Prepare, encoded. -/
import Derived.Test.YtpehfhdacgjmpaaGreatGen
import Derived.Test.YtpehfhdacgjmpaaGreatKinds
namespace Go.Proofs.YtpehfhdacgjmpaaGreat
open Go Go.RowKit
set_option maxRecDepth 100000 in
set_option maxHeartbeats 400000 in
theorem ColUInt64_AppendT (T : TypeId) (tl : List Value) (p : Nat) (ao : Option Addr) (n c : Nat) (xs : List Value) (x : Int) (w : World) (h : HoldT w p T 26 tl 1 ao n c xs) (hn : n ≤ 1000000) :
    Calls Tryz.prog 108 #[.pointer (some ⟨p, 0, none⟩), .int .u64 x] w fun e w' => e = .returned (.tuple #[]) ∧ GrewT w w' p T 26 tl 1 ao (n + 1) (xs ++ [.int .u64 x]) := by
  have hc := h.cell
  go_enter Tryz.func108, Tryz.ntmps108
  go_wp2_with (at_builtin; refine wpList_app1 _ rfl _ _ 202 rfl 26 (.int .u64 0) 1 8 Tryz.underlying202 Tryz.info26 rfl (by decide) h.own rfl [.int .u64 x] rfl rfl rfl (by simp [Value.oneCell']) (by decide) (by omega) ?_; intro ao1 c1 w1 hown1 hupd1 hin1; have hc1 := h.cell1 hupd1; have hf1 := h.free1 hupd1)
  go_end0
  exact ⟨rfl, _, _, h.after hown1 hupd1 hin1, h.upd hupd1 _, hin1⟩
set_option maxRecDepth 100000 in
set_option maxHeartbeats 400000 in
theorem ColUInt8_AppendT (T : TypeId) (tl : List Value) (p : Nat) (ao : Option Addr) (n c : Nat) (xs : List Value) (x : Int) (w : World) (h : HoldT w p T 5 tl 1 ao n c xs) (hn : n ≤ 1000000) :
    Calls Tryz.prog 181 #[.pointer (some ⟨p, 0, none⟩), .int .u8 x] w fun e w' => e = .returned (.tuple #[]) ∧ GrewT w w' p T 5 tl 1 ao (n + 1) (xs ++ [.int .u8 x]) := by
  have hc := h.cell
  go_enter Tryz.func181, Tryz.ntmps181
  go_wp2_with (at_builtin; refine wpList_app1 _ rfl _ _ 178 rfl 5 (.int .u8 0) 1 1 Tryz.underlying178 Tryz.info5 rfl (by decide) h.own rfl [.int .u8 x] rfl rfl rfl (by simp [Value.oneCell']) (by decide) (by omega) ?_; intro ao1 c1 w1 hown1 hupd1 hin1; have hc1 := h.cell1 hupd1; have hf1 := h.free1 hupd1)
  go_end0
  exact ⟨rfl, _, _, h.after hown1 hupd1 hin1, h.upd hupd1 _, hin1⟩
/-- the variable q holds a nullable column of strings: which are null, and the texts -/
def NullCol (w : World) (q : Nat) (F : List Nat) (ns : List Value) (ts : List (List Value)) : Prop :=
  ∃ ao c p Fs, HoldT w q 319 5 [.iface 87 (.pointer (some ⟨p, 0, none⟩))] 1 ao ns.length c ns ∧ StrCol w p Fs ts ∧
    q ∉ Fs ∧ (∀ x, x ∈ bk ao → x ∉ Fs) ∧ q ∈ F ∧ (∀ x, x ∈ bk ao → x ∈ F) ∧ (∀ x, x ∈ Fs → x ∈ F) ∧ ∀ x, x ∈ F → x < w.heap.size
theorem NullCol.kept {w w1 : World} {q : Nat} {F G : List Nat} {ns : List Value} {ts : List (List Value)} (h : NullCol w q F ns ts) (hu : Upd G w w1) (hG : ∀ x, x ∈ F → x ∉ G) : NullCol w1 q F ns ts := by
  obtain ⟨ao, c, p, Fs, hH, hC, h1, h2, h3, h4, h5, h6⟩ := h
  exact ⟨ao, c, p, Fs, hH.kept hu (hG q h3) (fun x hx => hG x (h4 x hx)), hC.kept hu (fun x hx => hG x (h5 x hx)), h1, h2, h3, h4, h5, fun x hx => Nat.lt_of_lt_of_le (h6 x hx) hu.size⟩
theorem NullCol.lt {w : World} {q : Nat} {F : List Nat} {ns : List Value} {ts : List (List Value)} (h : NullCol w q F ns ts) : ∀ x, x ∈ F → x < w.heap.size := by
  obtain ⟨_, _, _, _, _, _, _, _, _, _, _, h6⟩ := h; exact h6
/-- the byte that says whether a row is null -/
def nullB (b : Bool) : Value := .int .u8 (if b then 0 else 1)
set_option maxRecDepth 100000 in
set_option maxHeartbeats 1000000 in
theorem ColNull_Append_true (q : Nat) (F : List Nat) (ns : List Value) (ts : List (List Value)) (s : ByteArray) (w : World) (h : NullCol w q F ns ts) (hn : ts.length ≤ 10000) (ht : tot ts ≤ 1000000) (hs : s.size ≤ 100000) (hnn : ns.length ≤ 10000) :
    Calls Tryz.prog 172 #[.pointer (some ⟨q, 0, none⟩), .agg #[.bool true, .string s]] w fun e w' => e = .returned (.tuple #[]) ∧ ∃ F', NullCol w' q F' (ns ++ [.int .u8 0]) (ts ++ [byteCells s]) ∧ Upd F w w' ∧ Grows w.heap.size F F' := by
  obtain ⟨ao, co, p, Fs, hH, hC, hq, hsep, hqF, haF, hsF, hlt⟩ := h
  have hm := methT_S p
  obtain ⟨k1, u1, s1⟩ := alloc_facts w (Obj.cells #[.bool true, .string s] 85)
  have hH1 := hH.kept u1 (by simp) (by simp)
  have hC1 := hC.kept u1 (by simp)
  have hql := hlt q hqF
  go_enter Tryz.func172, Tryz.ntmps172
  go_wp2_with (go_at_call 181; apply stopHere)
  show Calls _ _ _ _ _
  generalize w.alloc (Obj.cells #[.bool true, .string s] 85) = W at *
  refine (ColUInt8_AppendT _ _ q _ _ _ _ _ W hH1 (by omega)).mono ?_
  rintro e w2 ⟨rfl, ao2, c2, hH2, hU2, hI2⟩
  dsimp only
  have hnw : w.heap.size ∉ q :: bk ao := fun hx => by
    rcases List.mem_cons.1 hx with h | h
    · omega
    · have := hlt _ (haF _ h); omega
  have kk := hU2.at k1 hnw
  have d1 : w2.cell? ⟨w.heap.size, 1, none⟩ = some (.string s) := by simp only [World.cell?, kk]; rfl
  have c1 := hH2.cellN 0 (v := .iface 87 (.pointer (some ⟨p, 0, none⟩))) rfl
  have hFs : ∀ x, x ∈ Fs → x ∉ q :: bk ao := fun x hx hx' => by
    rcases List.mem_cons.1 hx' with h | h
    · exact hq (h ▸ hx)
    · exact hsep x h hx
  have hC2 := hC1.kept hU2 hFs
  have hCd := hC2.kept ((Upd.refl [] w2).drew) (by simp)
  go_wp2
  refine wp_region_split (S := Upd [] w2) [(true, 0), (true, 1), (true, 2), (true, 3), (true, 4), (true, 5)] [] [6] (by kernel_rfl) (by kernel_rfl) (fun _ _ d _ _ h => by cases d <;> exact h) ((Upd.refl _ _).drew) ?_
  simp only [readsAt, opersAt, Option.map_some, List.filterMap_cons, List.filterMap_nil, List.getElem?_toArray, List.getElem?_cons_succ, List.getElem?_cons_zero]
  refine ⟨_, Or.inl ⟨by rfl, fun w' hS => by first | (go_simp; done) | (go_simp; with_reducible rfl)⟩, ?_⟩
  simp only [Act.put, List.setIfInBounds_toArray, List.set_cons_zero, List.set_cons_succ]
  refine ⟨_, Or.inl ⟨by rfl, fun w' hS => by first | (go_simp; done) | (go_simp; with_reducible rfl)⟩, ?_⟩
  simp only [Act.put, List.setIfInBounds_toArray, List.set_cons_zero, List.set_cons_succ]
  refine ⟨_, Or.inl ⟨by rfl, fun w' hS => by first | (go_simp; done) | (go_simp; with_reducible rfl)⟩, ?_⟩
  simp only [Act.put, List.setIfInBounds_toArray, List.set_cons_zero, List.set_cons_succ]
  refine ⟨_, Or.inl ⟨by rfl, fun w' hS => by have e0 := Upd.cell1 hS c1 (by simp); have e1 := Upd.cell1 hS d1 (by simp); first | (go_simp; done) | (go_simp; with_reducible rfl)⟩, ?_⟩
  simp only [Act.put, List.setIfInBounds_toArray, List.set_cons_zero, List.set_cons_succ]
  refine ⟨_, Or.inl ⟨by rfl, fun w' hS => by first | (go_simp; done) | (go_simp; with_reducible rfl)⟩, ?_⟩
  simp only [Act.put, List.setIfInBounds_toArray, List.set_cons_zero, List.set_cons_succ]
  refine ⟨_, Or.inl ⟨by rfl, fun w' hS => by have e0 := Upd.cell1 hS c1 (by simp); have e1 := Upd.cell1 hS d1 (by simp); first | (go_simp; done) | (go_simp; with_reducible rfl)⟩, ?_⟩
  simp only [Act.put, List.setIfInBounds_toArray, List.set_cons_zero, List.set_cons_succ]
  simp only [readsThen, preThen]
  change wpList _ _ _ [_] _ _
  go_wp2_with (go_at_call 104; (with_reducible refine (ColStr_Append p Fs _ _ _ hCd (by omega) (by omega) hs).mono ?_); rintro e w3 ⟨rfl, F2, hC3, hU3, hG3⟩)
  go_end0
  have hU3' : Upd Fs w2 w3 := hU3.ofDrew
  have hltW := hC1.lt
  have ha2 : ∀ x, x ∈ bk ao2 → x ∉ Fs := fun x hx hx' => (hI2 x hx).elim (fun h => hsep x h hx') (fun h => by have := hltW x hx'; omega)
  have hH3 := hH2.kept hU3' hq ha2
  have hbl2 := hH2.bk_lt
  have hql2 := hH2.lt
  have hq2 : q ∉ F2 := fun hx => (hG3 q hx).elim hq (fun h => by simp at h; omega)
  have hs2 : ∀ x, x ∈ bk ao2 → x ∉ F2 := fun x hx hx' => (hG3 x hx').elim (ha2 x hx) (fun h => by have := hbl2 x hx; simp at h; omega)
  have hU12 : Upd F w w2 := (u1.mono (by simp)).trans hU2 (fun x hx => .inl (by
    rcases List.mem_cons.1 hx with h | h
    · rw [h]; exact hqF
    · exact haF x h))
  have hUF : Upd F w w3 := hU12.trans hU3' (fun x hx => .inl (hsF x hx))
  refine ⟨rfl, q :: (bk ao2 ++ F2), ⟨ao2, c2, p, F2, ?_, hC3, hq2, hs2, by simp, fun x hx => by simp [hx], fun x hx => by simp [hx], ?_⟩, hUF, ?_⟩
  · simpa using hH3
  · intro x hx
    rcases List.mem_cons.1 hx with h | h
    · rw [h]; exact hH3.lt
    · rcases List.mem_append.1 h with h | h
      · exact hH3.bk_lt x h
      · exact hC3.lt x h
  · intro x hx
    rcases List.mem_cons.1 hx with h | h
    · exact .inl (by rw [h]; exact hqF)
    · rcases List.mem_append.1 h with h | h
      · exact (hI2 x h).imp (haF x) (fun h => by have := u1.size; omega)
      · exact (hG3 x h).imp (hsF x) (fun h => by have := hU12.size; simp at h; omega)
set_option maxRecDepth 100000 in
set_option maxHeartbeats 1000000 in
theorem ColNull_Append_false (q : Nat) (F : List Nat) (ns : List Value) (ts : List (List Value)) (s : ByteArray) (w : World) (h : NullCol w q F ns ts) (hn : ts.length ≤ 10000) (ht : tot ts ≤ 1000000) (hs : s.size ≤ 100000) (hnn : ns.length ≤ 10000) :
    Calls Tryz.prog 172 #[.pointer (some ⟨q, 0, none⟩), .agg #[.bool false, .string s]] w fun e w' => e = .returned (.tuple #[]) ∧ ∃ F', NullCol w' q F' (ns ++ [.int .u8 1]) (ts ++ [byteCells s]) ∧ Upd F w w' ∧ Grows w.heap.size F F' := by
  obtain ⟨ao, co, p, Fs, hH, hC, hq, hsep, hqF, haF, hsF, hlt⟩ := h
  have hm := methT_S p
  obtain ⟨k1, u1, s1⟩ := alloc_facts w (Obj.cells #[.bool false, .string s] 85)
  have hH1 := hH.kept u1 (by simp) (by simp)
  have hC1 := hC.kept u1 (by simp)
  have hql := hlt q hqF
  go_enter Tryz.func172, Tryz.ntmps172
  go_wp2_with (go_at_call 181; apply stopHere)
  show Calls _ _ _ _ _
  generalize w.alloc (Obj.cells #[.bool false, .string s] 85) = W at *
  refine (ColUInt8_AppendT _ _ q _ _ _ _ _ W hH1 (by omega)).mono ?_
  rintro e w2 ⟨rfl, ao2, c2, hH2, hU2, hI2⟩
  dsimp only
  have hnw : w.heap.size ∉ q :: bk ao := fun hx => by
    rcases List.mem_cons.1 hx with h | h
    · omega
    · have := hlt _ (haF _ h); omega
  have kk := hU2.at k1 hnw
  have d1 : w2.cell? ⟨w.heap.size, 1, none⟩ = some (.string s) := by simp only [World.cell?, kk]; rfl
  have c1 := hH2.cellN 0 (v := .iface 87 (.pointer (some ⟨p, 0, none⟩))) rfl
  have hFs : ∀ x, x ∈ Fs → x ∉ q :: bk ao := fun x hx hx' => by
    rcases List.mem_cons.1 hx' with h | h
    · exact hq (h ▸ hx)
    · exact hsep x h hx
  have hC2 := hC1.kept hU2 hFs
  have hCd := hC2.kept ((Upd.refl [] w2).drew) (by simp)
  go_wp2
  refine wp_region_split (S := Upd [] w2) [(true, 0), (true, 1), (true, 2), (true, 3), (true, 4), (true, 5)] [] [6] (by kernel_rfl) (by kernel_rfl) (fun _ _ d _ _ h => by cases d <;> exact h) ((Upd.refl _ _).drew) ?_
  simp only [readsAt, opersAt, Option.map_some, List.filterMap_cons, List.filterMap_nil, List.getElem?_toArray, List.getElem?_cons_succ, List.getElem?_cons_zero]
  refine ⟨_, Or.inl ⟨by rfl, fun w' hS => by first | (go_simp; done) | (go_simp; with_reducible rfl)⟩, ?_⟩
  simp only [Act.put, List.setIfInBounds_toArray, List.set_cons_zero, List.set_cons_succ]
  refine ⟨_, Or.inl ⟨by rfl, fun w' hS => by first | (go_simp; done) | (go_simp; with_reducible rfl)⟩, ?_⟩
  simp only [Act.put, List.setIfInBounds_toArray, List.set_cons_zero, List.set_cons_succ]
  refine ⟨_, Or.inl ⟨by rfl, fun w' hS => by first | (go_simp; done) | (go_simp; with_reducible rfl)⟩, ?_⟩
  simp only [Act.put, List.setIfInBounds_toArray, List.set_cons_zero, List.set_cons_succ]
  refine ⟨_, Or.inl ⟨by rfl, fun w' hS => by have e0 := Upd.cell1 hS c1 (by simp); have e1 := Upd.cell1 hS d1 (by simp); first | (go_simp; done) | (go_simp; with_reducible rfl)⟩, ?_⟩
  simp only [Act.put, List.setIfInBounds_toArray, List.set_cons_zero, List.set_cons_succ]
  refine ⟨_, Or.inl ⟨by rfl, fun w' hS => by first | (go_simp; done) | (go_simp; with_reducible rfl)⟩, ?_⟩
  simp only [Act.put, List.setIfInBounds_toArray, List.set_cons_zero, List.set_cons_succ]
  refine ⟨_, Or.inl ⟨by rfl, fun w' hS => by have e0 := Upd.cell1 hS c1 (by simp); have e1 := Upd.cell1 hS d1 (by simp); first | (go_simp; done) | (go_simp; with_reducible rfl)⟩, ?_⟩
  simp only [Act.put, List.setIfInBounds_toArray, List.set_cons_zero, List.set_cons_succ]
  simp only [readsThen, preThen]
  change wpList _ _ _ [_] _ _
  go_wp2_with (go_at_call 104; (with_reducible refine (ColStr_Append p Fs _ _ _ hCd (by omega) (by omega) hs).mono ?_); rintro e w3 ⟨rfl, F2, hC3, hU3, hG3⟩)
  go_end0
  have hU3' : Upd Fs w2 w3 := hU3.ofDrew
  have hltW := hC1.lt
  have ha2 : ∀ x, x ∈ bk ao2 → x ∉ Fs := fun x hx hx' => (hI2 x hx).elim (fun h => hsep x h hx') (fun h => by have := hltW x hx'; omega)
  have hH3 := hH2.kept hU3' hq ha2
  have hbl2 := hH2.bk_lt
  have hql2 := hH2.lt
  have hq2 : q ∉ F2 := fun hx => (hG3 q hx).elim hq (fun h => by simp at h; omega)
  have hs2 : ∀ x, x ∈ bk ao2 → x ∉ F2 := fun x hx hx' => (hG3 x hx').elim (ha2 x hx) (fun h => by have := hbl2 x hx; simp at h; omega)
  have hU12 : Upd F w w2 := (u1.mono (by simp)).trans hU2 (fun x hx => .inl (by
    rcases List.mem_cons.1 hx with h | h
    · rw [h]; exact hqF
    · exact haF x h))
  have hUF : Upd F w w3 := hU12.trans hU3' (fun x hx => .inl (hsF x hx))
  refine ⟨rfl, q :: (bk ao2 ++ F2), ⟨ao2, c2, p, F2, ?_, hC3, hq2, hs2, by simp, fun x hx => by simp [hx], fun x hx => by simp [hx], ?_⟩, hUF, ?_⟩
  · simpa using hH3
  · intro x hx
    rcases List.mem_cons.1 hx with h | h
    · rw [h]; exact hH3.lt
    · rcases List.mem_append.1 h with h | h
      · exact hH3.bk_lt x h
      · exact hC3.lt x h
  · intro x hx
    rcases List.mem_cons.1 hx with h | h
    · exact .inl (by rw [h]; exact hqF)
    · rcases List.mem_append.1 h with h | h
      · exact (hI2 x h).imp (haF x) (fun h => by have := u1.size; omega)
      · exact (hG3 x h).imp (hsF x) (fun h => by have := hU12.size; simp at h; omega)
theorem ColNull_Append (q : Nat) (F : List Nat) (ns : List Value) (ts : List (List Value)) (b : Bool) (s : ByteArray) (w : World) (h : NullCol w q F ns ts) (hn : ts.length ≤ 10000) (ht : tot ts ≤ 1000000) (hs : s.size ≤ 100000) (hnn : ns.length ≤ 10000) :
    Calls Tryz.prog 172 #[.pointer (some ⟨q, 0, none⟩), .agg #[.bool b, .string s]] w fun e w' => e = .returned (.tuple #[]) ∧ ∃ F', NullCol w' q F' (ns ++ [nullB b]) (ts ++ [byteCells s]) ∧ Upd F w w' ∧ Grows w.heap.size F F' := by
  cases b
  · exact ColNull_Append_false q F ns ts s w h hn ht hs hnn
  · exact ColNull_Append_true q F ns ts s w h hn ht hs hnn

set_option maxRecDepth 100000 in
set_option maxHeartbeats 1000000 in
theorem ColNull_EncodeColumn (ns : List Value) (ts : List (List Value)) (oo : Option Addr) (co p : Nat) (Fs : List Nat) (bp : Nat) (ao : Option Addr) (m cc : Nat) (bs : List Value) (w : World)
    (ho : Row w 5 1 oo ns.length co ns) (ho1 : ∀ u ∈ ns, u.oneCell' = true) (hC : StrCol w p Fs ts) (hb : Hold w bp 210 5 1 ao m cc bs) (hns : ∀ x, x ∈ Fs → x ∉ bp :: bk ao)
    (h1 : Short ts) (hn : ts.length ≤ 10000) (hm : m ≤ 1000000) (ht : tot ts ≤ 1000000) (he : ns.length ≤ 1000) :
    Calls Tryz.prog 175 #[.agg #[.slice oo ns.length co, .iface 87 (.pointer (some ⟨p, 0, none⟩))], .pointer (some ⟨bp, 0, none⟩)] w fun e w' => e = .returned (.tuple #[]) ∧ Grew w w' bp 210 5 1 ao (m + ns.length + (encS ts).length) (bs ++ ns ++ encS ts) := by
  go_enter Tryz.func175, Tryz.ntmps175
  obtain ⟨k1, u1, s1⟩ := alloc_facts w (Obj.cells #[.slice oo ns.length co, .iface 87 (.pointer (some ⟨p, 0, none⟩))] 319)
  have hb1 := hb.kept u1 (by simp) (by simp)
  have hor := ho.upd u1 (by simp)
  go_wp2_with (go_at_call 183; apply stopHere)
  show Calls _ _ _ _ _
  generalize w.alloc (Obj.cells #[.slice oo ns.length co, .iface 87 (.pointer (some ⟨p, 0, none⟩))] 319) = W at *
  refine (ColUInt8_EncodeColumn oo ns.length co ns bp ao m cc bs W hor.toView ho1 hb1 hor.lt (by omega) (by omega)).mono ?_
  rintro e w2 ⟨rfl, ao2, c2, hH2, hU2, hI2⟩
  dsimp only
  have hbl := hb.lt
  have hbo := hb.own.lt
  have hnw : w.heap.size ∉ bp :: bk ao := fun hx => by
    rcases List.mem_cons.1 hx with h | h
    · omega
    · have := hbo _ h; omega
  have kk := hU2.at k1 hnw
  have q1 : w2.cell? ⟨w.heap.size, 1, none⟩ = some (.iface 87 (.pointer (some ⟨p, 0, none⟩))) := by simp only [World.cell?, kk]; rfl
  have hC2 := (hC.kept u1 (by simp)).kept hU2 hns
  have hCl := hC.lt
  obtain ⟨ab, cb, ap, cp, hA, _, hbF, hqF, _⟩ := hC2
  have c0 : w2.cell? ⟨p, 0, none⟩ = some (.slice ab (tot ts) cb) := by simp only [World.cell?, hA.blk]; rfl
  have c1 : w2.cell? ⟨p, 0 + 1, none⟩ = some (.slice ap ts.length cp) := by simp only [World.cell?, hA.blk]; rfl
  have hm2 := methP_S p _ _ (loadC_S p _ _ _ c0 c1)
  clear c0 c1 kk k1
  have hd2 : ∀ x, x ∈ Fs → x ∉ bp :: bk ao2 := fun x hx hx' => by
    have h3 := hns x hx
    rcases List.mem_cons.1 hx' with h | h
    · exact h3 (by rw [h]; exact List.mem_cons_self)
    · rcases hI2 x h with h | h
      · exact h3 (List.mem_cons_of_mem _ h)
      · have := hCl x hx; omega
  have hlenB : (bs ++ ns).length = m + ns.length := by have := hH2.own.len; omega
  go_wp2_with (go_at_call 186; (refine (ColStr_EncodeColumn _ _ _ _ ts _ _ _ _ _ _ hA.buf.toView hA.pos.toView hA.buf.cap.1 hH2 (fun x hx => hd2 x (hbF x hx)) (fun x hx => hd2 x (hqF x hx)) h1 hn (by omega) (by omega)).mono ?_); rintro e w3 ⟨rfl, ao3, c3, hH3, hU3, hI3⟩)
  go_end0
  refine ⟨rfl, ao3, c3, hH3, ((u1.mono (by simp)).trans hU2 (fun _ h => .inl h)).trans hU3 (fun y hy => ?_), ?_⟩
  · rcases List.mem_cons.1 hy with h | h
    · exact .inl (by rw [h]; exact List.mem_cons_self)
    · rcases hI2 y h with h | h
      · exact .inl (List.mem_cons_of_mem _ h)
      · exact .inr (Nat.le_trans u1.size h)
  · exact (hI2.step hI3 hU2.size).le u1.size

theorem methQ2_N (k q : Nat) (w : World) : (method (k + 1) 86 (.pointer (some ⟨q, 0, none⟩)) "EncodeColumn").run Tryz.prog w = (do let v ← receiverAt 86 (.val (.pointer (some ⟨q, 0, none⟩))) false (some "EncodeColumn"); pure (175, v) : Sem (FuncId × Value)).run Tryz.prog w := by kernel_rfl
theorem methQ3_N (q : Nat) (w : World) : (receiverAt 86 (.val (.pointer (some ⟨q, 0, none⟩))) false (some "EncodeColumn")).run Tryz.prog w = (loadVar 319 ⟨q, 0, none⟩).run Tryz.prog w := by kernel_rfl
theorem methQ_N (q : Nat) (w : World) (v : Value) (h : (loadVar 319 ⟨q, 0, none⟩).run Tryz.prog w = .ok v w) : (method 706 86 (.pointer (some ⟨q, 0, none⟩)) "EncodeColumn").run Tryz.prog w = .ok (175, v) w := by
  rw [show 706 = (706 - 1) + 1 from rfl, methQ2_N]
  simp only [Sem.run_bind, methQ3_N, h, Result.andThen_ok, Sem.run_pure]
theorem loadC_N (p : Nat) (w : World) (u v : Value) (h : w.cell? ⟨p, 0, none⟩ = some u) (h' : w.cell? ⟨p, 0 + 1, none⟩ = some v) : (loadVar 319 ⟨p, 0, none⟩).run Tryz.prog w = .ok (.agg #[u, v]) w := by
  go_simp
  done
theorem methP_N (q : Nat) (w : World) : (method 706 86 (.pointer (some ⟨q, 0, none⟩)) "Prepare").run Tryz.prog w = .ok (176, .pointer (some ⟨q, 0, none⟩)) w := by kernel_rfl
theorem methAp_N (q : Nat) (w : World) : (method 706 86 (.pointer (some ⟨q, 0, none⟩)) "Append").run Tryz.prog w = .ok (172, .pointer (some ⟨q, 0, none⟩)) w := by kernel_rfl
theorem ta_N (q : Nat) (w : World) : (Instr.typeAssert (.iface 86 (.pointer (some ⟨q, 0, none⟩))) 325 439 true).run Tryz.prog w = .ok (.tuple #[.iface 86 (.pointer (some ⟨q, 0, none⟩)), .bool true]) w := by kernel_rfl
set_option maxRecDepth 100000 in
set_option maxHeartbeats 1000000 in
theorem enc_N (q : Nat) (F : List Nat) (ns : List Value) (ts : List (List Value)) (w : World) (h : NullCol w q F ns ts) (ho1 : ∀ u ∈ ns, u.oneCell' = true) (h1 : Short ts) (hn : ts.length ≤ 10000) (ht : tot ts ≤ 1000000) (he : ns.length ≤ 1000) :
    Calls Tryz.prog 30 #[.func (Fn.method "EncodeColumn") #[.iface 86 (.pointer (some ⟨q, 0, none⟩))] #[]] w (Made w (ns.length + (encS ts).length) (ns ++ encS ts)) := by
  go_enter Tryz.func30, Tryz.ntmps30
  have hB := newBuf w
  have u1 := (Upd.refl [] w).alloc (Obj.cells #[.slice none 0 0] 210)
  have hltw := h.lt
  obtain ⟨oo, co, p, Fs, hH, hC, hq, hsep, hqF, haF, hsF, _⟩ := h.kept u1 (by simp)
  have c0 := hH.cell
  have c1 := hH.cellN 0 (v := .iface 87 (.pointer (some ⟨p, 0, none⟩))) rfl
  have hm := methQ_N q _ _ (loadC_N q _ _ _ c0 c1)
  have ha2 : ∀ x, x ∈ Fs → x ∉ w.heap.size :: bk none := fun x hx hx' => by
    have := hltw x (hsF x hx); simp at hx'; omega
  clear c0 c1
  go_wp2_with (go_at_call 175; (refine (ColNull_EncodeColumn ns ts oo co p Fs _ _ _ _ _ _ hH.own ho1 hC hB ha2 h1 hn (by omega) ht he).mono ?_); rintro e w2 ⟨rfl, ao2, c2, hH2, hU2, hI2⟩; have hc2 := hH2.cell)
  go_ret
  rw [Nat.add_assoc, List.append_assoc] at hH2
  exact Made.of (by simp) hH2 hU2 hI2
set_option maxRecDepth 100000 in
set_option maxHeartbeats 1000000 in
theorem Prepare_N (q : Nat) (F : List Nat) (ns : List Value) (ts : List (List Value)) (w : World) (h : NullCol w q F ns ts) : Calls Tryz.prog 176 #[.pointer (some ⟨q, 0, none⟩)] w fun e w' => e = .returned .nilIface ∧ w' = w := by
  obtain ⟨oo, co, p, Fs, hH, _⟩ := h
  have c1 := hH.cellN 0 (v := .iface 87 (.pointer (some ⟨p, 0, none⟩))) rfl
  have hta := ta_S p
  go_enter Tryz.func176, Tryz.ntmps176
  go_wp2
  go_ret
  exact ⟨rfl, rfl⟩
set_option maxRecDepth 100000 in
set_option maxHeartbeats 1000000 in
theorem prepared_N (q : Nat) (F : List Nat) (ns : List Value) (ts : List (List Value)) (w : World) (h : NullCol w q F ns ts) : Calls Tryz.prog 105 #[.iface 86 (.pointer (some ⟨q, 0, none⟩))] w fun e w' => e = .returned (.bool true) ∧ Upd [] w w' := by
  have hm := methP_N q
  have hta := ta_N q
  go_enter Tryz.func105, Tryz.ntmps105
  go_wp2_with (go_at_call 176; (refine (Prepare_N q F ns ts _ h).mono ?_); rintro e w2 ⟨rfl, rfl⟩)
  go_ret
  exact ⟨rfl, Upd.refl _ _⟩
theorem encodes_N (q : Nat) (F : List Nat) (ns : List Value) (ts : List (List Value)) (w : World) (h : NullCol w q F ns ts) (ho1 : ∀ u ∈ ns, u.oneCell' = true) (h1 : Short ts) (hn : ts.length ≤ 10000) (ht : tot ts ≤ 1000000) (he : ns.length ≤ 1000) :
    Calls Tryz.prog 48 #[.iface 86 (.pointer (some ⟨q, 0, none⟩))] w fun e w' => (∃ ao c', e = .returned (.tuple #[.slice ao (ns.length + (encS ts).length) c', .bool true]) ∧ Row w' 5 1 ao (ns.length + (encS ts).length) c' (ns ++ encS ts)) ∧ Upd [] w w' :=
  encodes_of _ _ (fun w => NullCol w q F ns ts) (fun _ _ h hu => h.kept hu (by simp)) _ _ (fun w h => prepared_N q F ns ts w h) (fun w h => enc_N q F ns ts w h ho1 h1 hn ht he) w h
end Go.Proofs.YtpehfhdacgjmpaaGreat
