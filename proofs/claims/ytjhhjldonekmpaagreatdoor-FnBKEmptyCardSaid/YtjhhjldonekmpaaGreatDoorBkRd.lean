/- A Reader over bytes: its own buffer, a byte, numbers of it. -/
import Derived.Test.YtjhhjldonekmpaaGreatDoorBkEnc
import Derived.Laws.MakeOwn
import Derived.Lib.EndianBits
import Derived.Recover
import Derived.Defers
namespace Go.Proofs.YtjhhjldonekmpaaGreatDoor
open Go Go.RowKit
theorem Row.setOther {w : World} {e : TypeId} {size : Nat} {ao : Option Addr} {n c : Nat} {xs : List Value} (ho : Row w e size ao n c xs) {p : Nat} (hne : p ∉ bk ao) (u : Value) : Row (w.setCell ⟨p, 0, none⟩ u) e size ao n c xs :=
  ownsRow_setCell_other ho (by cases ao <;> simp_all [Value.ownBlock, eq_comm]) _
theorem Hold.stored {w : World} {p : Nat} {T e : TypeId} {size : Nat} {ao : Option Addr} {n c : Nat} {xs : List Value} {u : Value} (hb : w.heap[p]? = some (.cells #[u] T (0, 0))) (ho : Row w e size ao n c xs) (hne : p ∉ bk ao) : Hold (w.setCell ⟨p, 0, none⟩ (.slice ao n c)) p T e size ao n c xs :=
  ⟨one_setCell hb, ownsRow_setCell_other ho (by cases ao <;> simp_all [Value.ownBlock, eq_comm]) _, hne⟩
theorem wpList_make {P : Program} {w : World} {ops : Array Oper} {rest : List Oper} {o : Oper} {a : Act} {Q : Exit → Act → World → Prop} (hgd : o.guard = none) (t e : TypeId) (l c : Operand) (ho : o.op = .makeSlice t l c)
    (z : Value) (size bytes : Nat) (ht : P.underlying t = some (.slice e)) (hinfo : (P.info? e).map (fun i => (i.zero, i.size, i.bytes)) = some (some z, size, bytes)) {kl kc : IntKind} (n : Nat) (hl : a.eval l = .int kl n) (hc : a.eval c = .int kc n)
    (hn : n ≤ 100000) (hb : bytes * n ≤ 281474976710656)
    (h : wpList P ops Q rest (a.put o.dst (.slice (some ⟨w.heap.size, 0, none⟩) n n)) (w.alloc (.cells (madeCells z.cells (n * size)) e))) : wpList P ops Q (o :: rest) a w := by
  refine wpList_plain hgd fun K hK => ?_
  obtain ⟨i, hi, hz, hs, hby⟩ := info_parts hinfo
  subst hs hby
  have hb' : (i.bytes : Int) * (n : Int) ≤ 281474976710656 := by
    have h : ((i.bytes * n : Nat) : Int) ≤ 281474976710656 := by omega
    rwa [Int.natCast_mul] at h
  have hr := run_make (P := P) w t e i z ht hi hz kl kc n n (by omega) (Int.le_refl _) hb' (by omega)
  simp only [Int.toNat_natCast] at hr
  unfold Oper.wp execOp
  simp only [ho, hl, hc, Sem.run_bind, hr, Result.andThen_ok, Sem.run_pure]
  exact hK _ _ h
theorem made1 (v : Value) (n : Nat) : madeCells #[v] n = Array.replicate n v := by
  apply Array.ext
  · simp [size_madeCells]
  · intro i h1 h2
    simp [madeCells, Nat.mod_one]
/-- copy(dst, src), src no shorter than dst -/
theorem wpList_copyHead {P : Program} {w : World} {ops : Array Oper} {rest : List Oper} {o : Oper} {a : Act} {Q : Exit → Act → World → Prop} (hgd : o.guard = none) (d s : Operand) (dT sT : TypeId) (ho : o.op = .call { callee := .builtin .copy, args := #[d, s], argTypes := #[dT, sT] })
    (e : TypeId) (hu : P.underlying dT = some (.slice e)) (hsz : (P.info? e).map (·.size) = some 1) {g n c : Nat} (hd : a.eval d = .slice (some ⟨g, 0, none⟩) n c)
    {b off m mc : Nat} {news : List Value} (hs : a.eval s = .slice (some ⟨b, off, none⟩) m mc) (hr : w.rangeAt b off news) (hl : news.length = n) (h1 : ∀ u ∈ news, u.oneCell' = true) {e' : TypeId} {xs : List Value} (hrow : Row w e' 1 (some ⟨g, 0, none⟩) n c xs)
    (hm : n ≤ m)
    (h : ∀ w', Row w' e' 1 (some ⟨g, 0, none⟩) n c news → Upd [g] w w' → wpList P ops Q rest (a.put o.dst (goInt n)) w') : wpList P ops Q (o :: rest) a w := by
  refine wpList_plain hgd fun K hK => ?_
  obtain ⟨w', hst, hr', hup⟩ := hrow.put 0 news (by omega) h1 P
  obtain ⟨i, hi1, hi2⟩ := Option.map_eq_some_iff.1 hsz
  have hc := run_firstCells_some (P := P) w 1 n ⟨b, off, none⟩ m mc news (by omega) (fun j u hj => by rw [Addr.add_mid]; exact hr j u hj)
  have hmin : Nat.min m n = n := Nat.min_eq_right hm
  have hxs : putAt xs 0 news = news := by
    have := hrow.len
    simp only [putAt, List.take_zero, List.nil_append, Nat.zero_add]
    rw [List.drop_of_length_le (by omega), List.append_nil]
  rw [hxs] at hr'
  unfold Oper.wp execOp
  simp only [ho, resolve, invoke, builtin, Sem.run_bind, Sem.run_pure, Result.andThen_ok, List.map_toArray, List.map_cons, List.map_nil, hd, hs]
  have hlen : (Builtin.lenOf (.slice (some ⟨b, off, none⟩) m mc)).run P w = .ok m w := rfl
  have hrun : (Builtin.copy_ #[dT, sT] o.type #[.slice (some ⟨g, 0, none⟩) n c, .slice (some ⟨b, off, none⟩) m mc]).run P w = .ok (goInt n) w' := by
    simp [Builtin.copy_, run_underlying hu, hlen, hmin, sizeOf, typeInfo, hi1, hi2, hc, hst]
  rw [hrun]
  exact hK _ _ (h w' hr' hup)

/-- a row that is sliced to n within its capacity -/
theorem Row.upto {w : World} {e : TypeId} {g n0 c : Nat} {xs : List Value} (h : Row w e 1 (some ⟨g, 0, none⟩) n0 c xs) (n : Nat) (hn : n ≤ c) : ∃ ys, Row w e 1 (some ⟨g, 0, none⟩) n c ys := by
  rcases h.2 with ⟨h1, _⟩ | ⟨g', cap, cur, hv, hbg, hg, hnc, hcm, hcs, htake⟩
  · cases h1
  · simp only [Value.slice.injEq, Option.some.injEq, Addr.mk.injEq, and_true] at hv
    obtain ⟨rfl, _, rfl⟩ := hv
    refine ⟨cur.toList.take (n * 1), ?_, .inr ⟨g, c, cur, rfl, hbg, hg, hn, hcm, hcs, rfl⟩⟩
    rw [List.length_take, Array.length_toList, hcs]
    omega
/-- the buffer bf holds n bytes of its own -/
def Ensured (w w' : World) (bf n : Nat) (ao : Option Addr) : Prop := ∃ g c' ys, Hold w' bf 46 5 1 (some ⟨g, 0, none⟩) n c' ys ∧ Upd [bf] w w' ∧ In (bk ao) w.heap.size (some ⟨g, 0, none⟩)
set_option maxRecDepth 100000 in
set_option maxHeartbeats 1000000 in
theorem EnsureB (bf n : Nat) (ao : Option Addr) (n0 c0 : Nat) (xs : List Value) (w : World) (h : Hold w bf 46 5 1 ao n0 c0 xs) (h0 : 0 < n) (hn : n ≤ 1000) :
    Calls Tryz.prog 125 #[.pointer (some ⟨bf, 0, none⟩), .int .i64 n] w fun e w' => e = .returned (.tuple #[]) ∧ Ensured w w' bf n ao := by
  have hc := h.cell
  have hlt := h.lt
  have hb := h.blk
  by_cases hcap : c0 < n
  · have hcI : (c0 : Int) < n := by omega
    go_enter Tryz.func125, Tryz.ntmps125
    obtain ⟨k1, u1, s1⟩ := alloc_facts w (Obj.cells (madeCells #[.int .u8 0] n) 5)
    have hb1 := u1.at hb (by simp)
    have c1 := cell_of_one hb1
    have f1 := free_of_one hb1
    go_wp2_with ((with_reducible show wpList _ _ _ _ _ _); refine wpList_make rfl 27 5 (.tmp 12) (.tmp 12) rfl (.int .u8 0) 1 1 Tryz.underlying27 Tryz.info5 n rfl rfl (by omega) (by omega) ?_; simp only [Act.put])
    go_end0
    have hk := heap_alloc_new (w.setCell ⟨bf, 0, none⟩ (Value.slice (some ⟨w.heap.size, 0, none⟩) n n)) (Obj.cells (madeCells #[.int .u8 0] n) 5)
    rw [World.size_setCell] at hk
    refine ⟨rfl, w.heap.size, n, Array.toList (madeCells #[.int .u8 0] n), ⟨((Upd.refl [] _).alloc _).at (one_setCell hb) (by simp), ?_, by simp; omega⟩, ((Upd.refl [bf] w).setCell (p := ⟨bf, 0, none⟩) (Value.slice (some ⟨w.heap.size, 0, none⟩) n n) (by simp)).alloc _, fun y hy => by simp at hy; exact .inr (by omega)⟩
    refine Row.of _ hk (Nat.le_refl _) (by unfold maxLen; omega) (by simp [size_madeCells]) ?_
    rw [List.take_of_length_le (by simp [size_madeCells])]
  · have hcI : ¬ (c0 : Int) < n := by omega
    have hcJ : (n : Int) ≤ c0 := by omega
    rcases h.own.head_or with ⟨rfl, rfl, rfl, rfl⟩ | ⟨g, rfl⟩
    · omega
    · obtain ⟨ys, hy⟩ := h.own.upto n (by omega)
      have f1 := h.free
      have hcn : ¬ c0 = 0 := by omega
      go_enter Tryz.func125, Tryz.ntmps125
      go_wp2
      go_end0
      refine ⟨rfl, g, c0, ys, Hold.stored hb hy h.ne, (Upd.refl _ _).setCell _ (by simp), In.self (fun _ h => h)⟩
set_option maxRecDepth 100000 in
set_option maxHeartbeats 1000000 in
theorem ReadFullB (rd bf d o L c g C n : Nat) (bs xs : List Value) (w : World) (h1 : w.heap[rd]? = some (.cells #[.slice (some ⟨d, o, none⟩) L c, .pointer (some ⟨bf, 0, none⟩)] 223 (0, 0))) (hr : w.rangeAt d o bs) (hl : bs.length = L) (hLc : L ≤ c)
    (hrow : Row w 5 1 (some ⟨g, 0, none⟩) n C xs) (hnL : n ≤ L) (nrg : rd ≠ g) (hb : AllBytes bs) :
    Calls Tryz.prog 126 #[.pointer (some ⟨rd, 0, none⟩), .slice (some ⟨g, 0, none⟩) n C] w fun e w' => e = .returned .nilIface ∧ Row w' 5 1 (some ⟨g, 0, none⟩) n C (bs.take n) ∧
      (∃ o', w'.heap[rd]? = some (.cells #[.slice (some ⟨d, o', none⟩) (L - n) (c - n), .pointer (some ⟨bf, 0, none⟩)] 223 (0, 0)) ∧ (0 < L - n → o' = o + n)) ∧ Upd [rd, g] w w' := by
  have r0 : w.cell? ⟨rd, 0, none⟩ = some (.slice (some ⟨d, o, none⟩) L c) := by simp [World.cell?, h1]
  have r1 : w.cell? ⟨rd, 1, none⟩ = some (.pointer (some ⟨bf, 0, none⟩)) := by simp [World.cell?, h1]
  have fr : w.frozen? ⟨rd, 0, none⟩ = false := by simp [World.frozen?, h1]
  have hnI : ¬ (L : Int) < n := by omega
  have hnJ : (n : Int) ≤ L := by omega
  have hr' : w.rangeAt d o (bs.take n) := fun j v hj => hr j v (by
    rw [List.getElem?_take] at hj
    split at hj
    · exact hj
    · cases hj)
  have htl : (bs.take n).length = n := by rw [List.length_take]; omega
  have ht1 : ∀ u ∈ bs.take n, u.oneCell' = true := fun u hu => hb.one u (List.mem_of_mem_take hu)
  by_cases hcn : c = n
  · go_enter Tryz.func126, Tryz.ntmps126
    go_wp2_with ((with_reducible show wpList _ _ _ _ _ _); refine wpList_copyHead rfl (.tmp 16) (.tmp 20) 27 27 rfl 5 Tryz.underlying27 (by kernel_rfl) rfl rfl hr' htl ht1 hrow hnL ?_; intro w1 hr1 hu1; simp only [Act.put]; have q0 := hu1.cell1 r0 (by simpa using nrg); have q1 := hu1.cell1 r1 (by simpa using nrg); have k1 := hu1.at h1 (by simpa using nrg); have fq : w1.frozen? ⟨rd, 0, none⟩ = false := by simp [World.frozen?, k1])
    go_ret
    have k2 := heap_setCell_same w1 rd 0 _ _ (.slice (some ⟨d, o, none⟩) (L - n) (c - n)) k1
    refine ⟨rfl, ?_, ⟨o, ?_, fun h => by omega⟩, ?_⟩
    · first | exact hr1.setOther (by simpa using nrg) _ | exact hr1.setOther (by simp; omega) _
    · simpa [hcn] using k2
    · exact (hu1.mono (by simp)).setCell _ (by simp)
  · go_enter Tryz.func126, Tryz.ntmps126
    go_wp2_with ((with_reducible show wpList _ _ _ _ _ _); refine wpList_copyHead rfl (.tmp 16) (.tmp 20) 27 27 rfl 5 Tryz.underlying27 (by kernel_rfl) rfl rfl hr' htl ht1 hrow hnL ?_; intro w1 hr1 hu1; simp only [Act.put]; have q0 := hu1.cell1 r0 (by simpa using nrg); have q1 := hu1.cell1 r1 (by simpa using nrg); have k1 := hu1.at h1 (by simpa using nrg); have fq : w1.frozen? ⟨rd, 0, none⟩ = false := by simp [World.frozen?, k1])
    go_ret
    have k2 := heap_setCell_same w1 rd 0 _ _ (.slice (some ⟨d, o + n, none⟩) (L - n) (c - n)) k1
    refine ⟨rfl, ?_, ⟨o + n, ?_, fun h => rfl⟩, ?_⟩
    · first | exact hr1.setOther (by simpa using nrg) _ | exact hr1.setOther (by simp; omega) _
    · simpa [hcn, Addr.add_mid] using k2
    · exact (hu1.mono (by simp)).setCell _ (by simp)

/-- the Reader rd, with its buffer bf (whose row begins in ao), has the bytes bs of block d before it -/
structure Rdr (w : World) (rd bf d : Nat) (ao : Option Addr) (bs : List Value) : Prop where
  blk : ∃ o c, w.heap[rd]? = some (.cells #[.slice (some ⟨d, o, none⟩) bs.length c, .pointer (some ⟨bf, 0, none⟩)] 223 (0, 0)) ∧ bs.length ≤ c ∧ w.rangeAt d o bs
  bytes : AllBytes bs
  dlt : d < w.heap.size
  buf : ∃ n c xs, Hold w bf 46 5 1 ao n c xs
  n1 : rd ≠ bf
  n2 : d ≠ rd
  n3 : d ≠ bf
  n4 : rd ∉ bk ao
  n5 : d ∉ bk ao
theorem Rdr.ltr {w : World} {rd bf d : Nat} {ao : Option Addr} {bs : List Value} (h : Rdr w rd bf d ao bs) : rd < w.heap.size := by obtain ⟨o, c, h1, _⟩ := h.blk; exact lt_of_block h1
theorem Rdr.ltb {w : World} {rd bf d : Nat} {ao : Option Addr} {bs : List Value} (h : Rdr w rd bf d ao bs) : bf < w.heap.size := by obtain ⟨o, c, _, h1⟩ := h.buf; exact h1.lt
/-- what the reading may change -/
abbrev rdF (rd bf : Nat) (ao : Option Addr) : List Nat := rd :: bf :: bk ao
theorem Rdr.kept {w w' : World} {rd bf d : Nat} {ao : Option Addr} {bs : List Value} {F : List Nat} (h : Rdr w rd bf d ao bs) (hu : Upd F w w') (h1 : ∀ x, x ∈ F → x ≠ rd ∧ x ≠ bf ∧ x ≠ d ∧ x ∉ bk ao) : Rdr w' rd bf d ao bs := by
  obtain ⟨o, c, hb, hc, hr⟩ := h.blk
  obtain ⟨n, c', xs, hH⟩ := h.buf
  exact ⟨⟨o, c, hu.at hb (fun hx => (h1 _ hx).1 rfl), hc, hu.range hr h.dlt (fun hx => (h1 _ hx).2.2.1 rfl)⟩, h.bytes, Nat.lt_of_lt_of_le h.dlt hu.size, ⟨n, c', xs, hH.kept hu (fun hx => (h1 _ hx).2.1 rfl) (fun x hx hx' => (h1 _ hx').2.2.2 hx)⟩, h.n1, h.n2, h.n3, h.n4, h.n5⟩
/-- some of them are read -/
def Reads (w w' : World) (rd bf d : Nat) (ao : Option Addr) (rest : List Value) : Prop := ∃ ao', Rdr w' rd bf d ao' rest ∧ Upd (rdF rd bf ao) w w' ∧ In (bk ao) w.heap.size ao'
theorem Reads.trans {w w1 w2 : World} {rd bf d : Nat} {ao ao1 : Option Addr} {rest : List Value} (hu : Upd (rdF rd bf ao) w w1) (hi : In (bk ao) w.heap.size ao1) (h : Reads w1 w2 rd bf d ao1 rest) : Reads w w2 rd bf d ao rest := by
  obtain ⟨ao2, h1, h2, h3⟩ := h
  refine ⟨ao2, h1, hu.trans h2 (fun y hy => ?_), hi.step h3 hu.size⟩
  simp only [rdF, List.mem_cons] at hy ⊢
  rcases hy with h | h | h
  · exact .inl (.inl h)
  · exact .inl (.inr (.inl h))
  · rcases hi y h with h | h
    · exact .inl (.inr (.inr h))
    · exact .inr h
set_option maxRecDepth 100000 in
set_option maxHeartbeats 1000000 in
theorem readFullB (rd bf d n : Nat) (ao : Option Addr) (bs : List Value) (w : World) (h : Rdr w rd bf d ao bs) (h0 : 0 < n) (hn : n ≤ 1000) (hL : n ≤ bs.length) :
    Calls Tryz.prog 121 #[.pointer (some ⟨rd, 0, none⟩), .int .i64 n] w fun e w' => e = .returned .nilIface ∧ ∃ g c, Rdr w' rd bf d (some ⟨g, 0, none⟩) (bs.drop n) ∧ Hold w' bf 46 5 1 (some ⟨g, 0, none⟩) n c (bs.take n) ∧ Upd (rdF rd bf ao) w w' ∧ In (bk ao) w.heap.size (some ⟨g, 0, none⟩) := by
  obtain ⟨o, c, hblk, hLc, hr⟩ := h.blk
  obtain ⟨nb, cb, xs, hH⟩ := h.buf
  have hby := h.bytes
  have r0 : w.cell? ⟨rd, 0, none⟩ = some (.slice (some ⟨d, o, none⟩) bs.length c) := by simp [World.cell?, hblk]
  have r1 : w.cell? ⟨rd, 1, none⟩ = some (.pointer (some ⟨bf, 0, none⟩)) := by simp [World.cell?, hblk]
  have lr := lt_of_block hblk
  have ld := h.dlt
  have lb := hH.lt
  obtain ⟨n1, n2, n3, n4, n5⟩ := And.intro h.n1 (And.intro h.n2 (And.intro h.n3 (And.intro h.n4 h.n5)))
  obtain ⟨L, hLL⟩ : ∃ L, L = bs.length := ⟨_, rfl⟩
  rw [← hLL] at r0 hblk hLc hL
  have HL := Lib.hid hLL
  clear hLL
  have hnI : ¬ (L : Int) < n := by omega
  go_enter Tryz.func121, Tryz.ntmps121
  go_wp2_with (first
    | (go_at_call 125; (refine (EnsureB bf n _ _ _ _ _ hH h0 hn).mono ?_; rintro e w1 ⟨rfl, g, c1, ys, hH1, hu1, hi1⟩; have hb1 := hu1.at hblk (by simpa using n1); have hr1 := hu1.range hr ld (by simpa using n3); have q0 : w1.cell? ⟨rd, 0, none⟩ = some (.slice (some ⟨d, o, none⟩) L c) := (by simp [World.cell?, hb1]); have q1 : w1.cell? ⟨rd, 1, none⟩ = some (.pointer (some ⟨bf, 0, none⟩)) := (by simp [World.cell?, hb1]); have q2 := hH1.cell; have nrg : rd ≠ g := (by intro e; subst e; rcases hi1 rd (by simp) with h | h; exact n4 h; omega)))
    | (go_at_call 126; (refine (ReadFullB rd bf d o L c g c1 n bs ys _ hb1 hr1 HL.out.symm hLc hH1.own hL nrg hby).mono ?_); rintro e w2 ⟨rfl, hR2, ⟨o2, hk2, ho2⟩, hu2⟩))
  go_ret
  have nbg : bf ≠ g := fun e => hH1.ne (by simp [e])
  have hne2 : bf ∉ [rd, g] := by simp [eq_comm, n1, nbg]
  have hH2 : Hold w2 bf 46 5 1 (some ⟨g, 0, none⟩) n c1 (bs.take n) := ⟨hu2.at hH1.blk hne2, hR2, hH1.ne⟩
  have ndg : d ≠ g := by
    intro e
    subst e
    rcases hi1 d (by simp) with h | h
    · exact n5 h
    · omega
  have hr2 := hu2.range hr1 (Nat.lt_of_lt_of_le ld hu1.size) (by simp [n2, ndg])
  have hdl : (bs.drop n).length = L - n := by rw [List.length_drop, HL.out]
  refine ⟨rfl, g, c1, ⟨⟨o2, c - n, by rw [hdl]; exact hk2, by rw [hdl]; omega, fun j v hj => ?_⟩, fun u hu => hby u (List.mem_of_mem_drop hu), Nat.lt_of_lt_of_le (Nat.lt_of_lt_of_le ld hu1.size) hu2.size, ⟨n, c1, _, hH2⟩, n1, n2, n3, by simpa using nrg, by simpa using ndg⟩, hH2, ?_, hi1⟩
  · have hj' : j < (bs.drop n).length := (List.getElem?_eq_some_iff.1 hj).1
    rw [ho2 (by omega), Nat.add_assoc]
    exact hr2 _ v (by rw [← hj, List.getElem?_drop])
  · refine (hu1.mono (by simp)).trans hu2 (fun y hy => ?_)
    simp only [List.mem_cons, List.not_mem_nil, or_false] at hy
    rcases hy with h | h
    · exact .inl (by simp [rdF, h])
    · subst h
      rcases hi1 y (by simp) with h | h
      · exact .inl (by simp [rdF, h])
      · exact .inr h
set_option maxRecDepth 100000 in
set_option maxHeartbeats 1000000 in
theorem rdReadByte (rd bf d : Nat) (ao : Option Addr) (x : Int) (bs : List Value) (w : World) (h : Rdr w rd bf d ao (.int .u8 x :: bs)) :
    Calls Tryz.prog 112 #[.pointer (some ⟨rd, 0, none⟩)] w fun e w' => e = .returned (.tuple #[.int .u8 x, .nilIface]) ∧ Reads w w' rd bf d ao bs := by
  go_enter Tryz.func112, Tryz.ntmps112
  go_wp2_with (go_at_call 121; (refine (readFullB rd bf d 1 ao _ _ h (by decide) (by decide) (by simp)).mono ?_); rintro e w1 ⟨rfl, g, c1, hR1, hH1, hu1, hi1⟩; obtain ⟨o1, cc1, hb1, _, _⟩ := hR1.blk; have q1 : w1.cell? ⟨rd, 1, none⟩ = some (.pointer (some ⟨bf, 0, none⟩)) := (by simp [World.cell?, hb1]); have q2 := hH1.cell; have q3 : w1.cell? ⟨g, 0, none⟩ = some (.int .u8 x) := hH1.own.cell (by simp); clear hb1)
  refine bodyPost_ret (results_tmp2 Tryz.results112 _ _ _) rfl ⟨by first | rfl | simp, _, hR1, hu1, hi1⟩
set_option maxRecDepth 100000 in
set_option maxHeartbeats 1000000 in
theorem rdUInt8 (rd bf d : Nat) (ao : Option Addr) (x : Int) (bs : List Value) (w : World) (h : Rdr w rd bf d ao (.int .u8 x :: bs)) :
    Calls Tryz.prog 113 #[.pointer (some ⟨rd, 0, none⟩)] w fun e w' => e = .returned (.tuple #[.int .u8 x, .nilIface]) ∧ Reads w w' rd bf d ao bs := by
  go_enter Tryz.func113, Tryz.ntmps113
  go_wp2_with (go_at_call 121; (refine (readFullB rd bf d 1 ao _ _ h (by decide) (by decide) (by simp)).mono ?_); rintro e w1 ⟨rfl, g, c1, hR1, hH1, hu1, hi1⟩; obtain ⟨o1, cc1, hb1, _, _⟩ := hR1.blk; have q1 : w1.cell? ⟨rd, 1, none⟩ = some (.pointer (some ⟨bf, 0, none⟩)) := (by simp [World.cell?, hb1]); have q2 := hH1.cell; have q3 : w1.cell? ⟨g, 0, none⟩ = some (.int .u8 x) := hH1.own.cell (by simp); clear hb1)
  refine bodyPost_ret (results_tmp2 Tryz.results113 _ _ _) rfl ⟨by first | rfl | simp, _, hR1, hu1, hi1⟩
set_option maxRecDepth 100000 in
set_option maxHeartbeats 1000000 in
/-- a number under 128 in a byte of its own -/
theorem rdUVarInt (rd bf d : Nat) (ao : Option Addr) (x : Int) (hx : x = 0 ∨ x = 1 ∨ x = 2) (bs : List Value) (w : World) (h : Rdr w rd bf d ao (.int .u8 x :: bs)) :
    Calls Tryz.prog 73 #[.pointer (some ⟨rd, 0, none⟩)] w fun e w' => e = .returned (.tuple #[.int .u64 x, .nilIface]) ∧ Reads w w' rd bf d ao bs := by
  have hor : ∀ x : Int, x = 0 ∨ x = 1 ∨ x = 2 → bits .or .u64 0 x = x := fun x hx => by rcases hx with rfl | rfl | rfl <;> rfl
  rcases hx with rfl | rfl | rfl <;> (go_enter Tryz.func73, Tryz.ntmps73) <;> go_wp2 <;>
    (go_loopw [4, 5, 6] (fun a s i wr => a = .int .u64 0 ∧ s = .int .u64 0 ∧ i = .int .i64 0 ∧ wr = w) (fun _ _ _ _ => 0)) <;>
    first
    | exact ⟨rfl, rfl, rfl, rfl⟩
    | (obtain ⟨rfl, rfl, rfl, hw⟩ := hrel
       go_wp2_with (go_at_call 112; (refine (rdReadByte rd bf d ao _ bs _ h).mono ?_); rintro e w1 ⟨rfl, hR1⟩)
       refine bodyPost_ret (results_tmp2 Tryz.results73 _ _ _) rfl ⟨by first | rfl | simp, hR1⟩)
set_option maxRecDepth 100000 in
set_option maxHeartbeats 1000000 in
theorem rdInt (rd bf d : Nat) (ao : Option Addr) (bs : List Value) (w : World) (h : Rdr w rd bf d ao (.int .u8 0 :: bs)) :
    Calls Tryz.prog 76 #[.pointer (some ⟨rd, 0, none⟩)] w fun e w' => e = .returned (.tuple #[.int .i64 0, .nilIface]) ∧ Reads w w' rd bf d ao bs := by
  go_enter Tryz.func76, Tryz.ntmps76
  go_wp2_with (go_at_call 73; (refine (rdUVarInt rd bf d ao 0 (.inl rfl) bs _ h).mono ?_); rintro e w1 ⟨rfl, hR1⟩)
  refine bodyPost_ret (results_tmp2 Tryz.results76 _ _ _) rfl ⟨by first | rfl | simp, hR1⟩
set_option maxRecDepth 100000 in
set_option maxHeartbeats 1000000 in
theorem rdBool (rd bf d : Nat) (ao : Option Addr) (b : Bool) (bs : List Value) (w : World) (h : Rdr w rd bf d ao (bitV b :: bs)) :
    Calls Tryz.prog 74 #[.pointer (some ⟨rd, 0, none⟩)] w fun e w' => e = .returned (.tuple #[.bool b, .nilIface]) ∧ Reads w w' rd bf d ao bs := by
  cases b <;> (go_enter Tryz.func74, Tryz.ntmps74) <;>
    (go_wp2_with (go_at_call 113; (refine (rdUInt8 rd bf d ao _ bs _ h).mono ?_); rintro e w1 ⟨rfl, hR1⟩)) <;>
    (refine bodyPost_ret (results_tmp2 Tryz.results74 _ _ _) rfl ⟨by first | rfl | simp, hR1⟩)
set_option maxRecDepth 100000 in
set_option maxHeartbeats 1000000 in
theorem Uint32v (g c : Nat) (x0 x1 x2 x3 : Int) (w : World) (h : w.rangeAt g 0 [.int .u8 x0, .int .u8 x1, .int .u8 x2, .int .u8 x3]) (hlt : g < w.heap.size) (h0 : 0 ≤ x0 ∧ x0 < 256) (h1 : 0 ≤ x1 ∧ x1 < 256) (h2 : 0 ≤ x2 ∧ x2 < 256) (h3 : 0 ≤ x3 ∧ x3 < 256) :
    Calls Tryz.prog 122 #[.agg #[], .slice (some ⟨g, 0, none⟩) 4 c] w fun e w' => e = .returned (.int .u32 (x0 + x1 * 256 + x2 * 65536 + x3 * 16777216)) ∧ Upd [] w w' := by
  have k0 : w.cell? ⟨g, 0, none⟩ = some (.int .u8 x0) := h 0 _ rfl
  have k1 : w.cell? ⟨g, 1, none⟩ = some (.int .u8 x1) := h 1 _ rfl
  have k2 : w.cell? ⟨g, 2, none⟩ = some (.int .u8 x2) := h 2 _ rfl
  have k3 : w.cell? ⟨g, 3, none⟩ = some (.int .u8 x3) := h 3 _ rfl
  go_enter Tryz.func122, Tryz.ntmps122
  go_wp2
  have u1 := (Upd.refl [] w).alloc (Obj.cells #[] 368)
  have q0 := u1.cell1 k0 (by simp)
  have q1 := u1.cell1 k1 (by simp)
  have q2 := u1.cell1 k2 (by simp)
  have q3 := u1.cell1 k3 (by simp)
  generalize w.alloc (Obj.cells #[] 368) = W at *
  refine wp_region_split (S := Upd [] W) [(true, 0), (true, 1), (true, 2), (true, 3), (true, 4), (true, 5), (true, 6), (true, 7), (true, 8), (true, 9), (true, 10), (true, 11), (true, 12), (true, 13), (true, 14), (true, 15), (true, 16), (true, 17), (true, 18), (true, 19), (true, 20), (true, 21)] [] [22] (by kernel_rfl) (by kernel_rfl) (fun _ _ d _ _ h => by cases d <;> exact h) ((Upd.refl _ _).drew) ?_
  simp only [readsAt, opersAt, Option.map_some, List.filterMap_cons, List.filterMap_nil, List.getElem?_toArray, List.getElem?_cons_succ, List.getElem?_cons_zero]
  refine ⟨_, Or.inl ⟨by rfl, fun w' hS => by first | (go_simp; done) | (go_simp; with_reducible rfl)⟩, ?_⟩
  simp only [Act.put, List.setIfInBounds_toArray, List.set_cons_zero, List.set_cons_succ]
  refine ⟨_, Or.inl ⟨by rfl, fun w' hS => by first | (go_simp; done) | (go_simp; with_reducible rfl)⟩, ?_⟩
  simp only [Act.put, List.setIfInBounds_toArray, List.set_cons_zero, List.set_cons_succ]
  refine ⟨_, Or.inl ⟨by rfl, fun w' hS => by have e0 := Upd.cell1 hS q0 (by simp); have e1 := Upd.cell1 hS q1 (by simp); have e2 := Upd.cell1 hS q2 (by simp); have e3 := Upd.cell1 hS q3 (by simp); first | (go_simp; done) | (go_simp; with_reducible rfl)⟩, ?_⟩
  simp only [Act.put, List.setIfInBounds_toArray, List.set_cons_zero, List.set_cons_succ]
  refine ⟨_, Or.inl ⟨by rfl, fun w' hS => by first | (go_simp; done) | (go_simp; with_reducible rfl)⟩, ?_⟩
  simp only [Act.put, List.setIfInBounds_toArray, List.set_cons_zero, List.set_cons_succ]
  refine ⟨_, Or.inl ⟨by rfl, fun w' hS => by first | (go_simp; done) | (go_simp; with_reducible rfl)⟩, ?_⟩
  simp only [Act.put, List.setIfInBounds_toArray, List.set_cons_zero, List.set_cons_succ]
  refine ⟨_, Or.inl ⟨by rfl, fun w' hS => by first | (go_simp; done) | (go_simp; with_reducible rfl)⟩, ?_⟩
  simp only [Act.put, List.setIfInBounds_toArray, List.set_cons_zero, List.set_cons_succ]
  refine ⟨_, Or.inl ⟨by rfl, fun w' hS => by have e0 := Upd.cell1 hS q0 (by simp); have e1 := Upd.cell1 hS q1 (by simp); have e2 := Upd.cell1 hS q2 (by simp); have e3 := Upd.cell1 hS q3 (by simp); first | (go_simp; done) | (go_simp; with_reducible rfl)⟩, ?_⟩
  simp only [Act.put, List.setIfInBounds_toArray, List.set_cons_zero, List.set_cons_succ]
  refine ⟨_, Or.inl ⟨by rfl, fun w' hS => by first | (go_simp; done) | (go_simp; with_reducible rfl)⟩, ?_⟩
  simp only [Act.put, List.setIfInBounds_toArray, List.set_cons_zero, List.set_cons_succ]
  refine ⟨_, Or.inl ⟨by rfl, fun w' hS => by first | (go_simp; done) | (go_simp; with_reducible rfl)⟩, ?_⟩
  simp only [Act.put, List.setIfInBounds_toArray, List.set_cons_zero, List.set_cons_succ]
  refine ⟨_, Or.inl ⟨by rfl, fun w' hS => by first | (go_simp; done) | (go_simp; with_reducible rfl)⟩, ?_⟩
  simp only [Act.put, List.setIfInBounds_toArray, List.set_cons_zero, List.set_cons_succ]
  refine ⟨_, Or.inl ⟨by rfl, fun w' hS => by first | (go_simp; done) | (go_simp; with_reducible rfl)⟩, ?_⟩
  simp only [Act.put, List.setIfInBounds_toArray, List.set_cons_zero, List.set_cons_succ]
  refine ⟨_, Or.inl ⟨by rfl, fun w' hS => by first | (go_simp; done) | (go_simp; with_reducible rfl)⟩, ?_⟩
  simp only [Act.put, List.setIfInBounds_toArray, List.set_cons_zero, List.set_cons_succ]
  refine ⟨_, Or.inl ⟨by rfl, fun w' hS => by have e0 := Upd.cell1 hS q0 (by simp); have e1 := Upd.cell1 hS q1 (by simp); have e2 := Upd.cell1 hS q2 (by simp); have e3 := Upd.cell1 hS q3 (by simp); first | (go_simp; done) | (go_simp; with_reducible rfl)⟩, ?_⟩
  simp only [Act.put, List.setIfInBounds_toArray, List.set_cons_zero, List.set_cons_succ]
  refine ⟨_, Or.inl ⟨by rfl, fun w' hS => by first | (go_simp; done) | (go_simp; with_reducible rfl)⟩, ?_⟩
  simp only [Act.put, List.setIfInBounds_toArray, List.set_cons_zero, List.set_cons_succ]
  refine ⟨_, Or.inl ⟨by rfl, fun w' hS => by first | (go_simp; done) | (go_simp; with_reducible rfl)⟩, ?_⟩
  simp only [Act.put, List.setIfInBounds_toArray, List.set_cons_zero, List.set_cons_succ]
  refine ⟨_, Or.inl ⟨by rfl, fun w' hS => by first | (go_simp; done) | (go_simp; with_reducible rfl)⟩, ?_⟩
  simp only [Act.put, List.setIfInBounds_toArray, List.set_cons_zero, List.set_cons_succ]
  refine ⟨_, Or.inl ⟨by rfl, fun w' hS => by first | (go_simp; done) | (go_simp; with_reducible rfl)⟩, ?_⟩
  simp only [Act.put, List.setIfInBounds_toArray, List.set_cons_zero, List.set_cons_succ]
  refine ⟨_, Or.inl ⟨by rfl, fun w' hS => by first | (go_simp; done) | (go_simp; with_reducible rfl)⟩, ?_⟩
  simp only [Act.put, List.setIfInBounds_toArray, List.set_cons_zero, List.set_cons_succ]
  refine ⟨_, Or.inl ⟨by rfl, fun w' hS => by have e0 := Upd.cell1 hS q0 (by simp); have e1 := Upd.cell1 hS q1 (by simp); have e2 := Upd.cell1 hS q2 (by simp); have e3 := Upd.cell1 hS q3 (by simp); first | (go_simp; done) | (go_simp; with_reducible rfl)⟩, ?_⟩
  simp only [Act.put, List.setIfInBounds_toArray, List.set_cons_zero, List.set_cons_succ]
  refine ⟨_, Or.inl ⟨by rfl, fun w' hS => by first | (go_simp; done) | (go_simp; with_reducible rfl)⟩, ?_⟩
  simp only [Act.put, List.setIfInBounds_toArray, List.set_cons_zero, List.set_cons_succ]
  refine ⟨_, Or.inl ⟨by rfl, fun w' hS => by first | (go_simp; done) | (go_simp; with_reducible rfl)⟩, ?_⟩
  simp only [Act.put, List.setIfInBounds_toArray, List.set_cons_zero, List.set_cons_succ]
  refine ⟨_, Or.inl ⟨by rfl, fun w' hS => by first | (go_simp; done) | (go_simp; with_reducible rfl)⟩, ?_⟩
  simp only [Act.put, List.setIfInBounds_toArray, List.set_cons_zero, List.set_cons_succ]
  simp only [readsThen, preThen]
  change wpList _ _ _ [_] _ _
  go_wp2
  go_ret
  refine ⟨?_, u1.drew⟩
  have e0 : IntKind.u32.wrap x0 = x0 := by rw [IntKind.wrap_u32]; omega
  have e1 : IntKind.u32.wrap (IntKind.u32.wrap x1 * 256) = x1 * 256 := by rw [IntKind.wrap_u32, IntKind.wrap_u32]; omega
  have e2 : IntKind.u32.wrap (IntKind.u32.wrap x2 * 65536) = x2 * 65536 := by rw [IntKind.wrap_u32, IntKind.wrap_u32]; omega
  have e3 : IntKind.u32.wrap (IntKind.u32.wrap x3 * 16777216) = x3 * 16777216 := by rw [IntKind.wrap_u32, IntKind.wrap_u32]; omega
  show Ending.returned (Value.int IntKind.u32 (bits BinOp.or IntKind.u32 (bits BinOp.or IntKind.u32 (bits BinOp.or IntKind.u32 (IntKind.u32.wrap x0) (IntKind.u32.wrap (IntKind.u32.wrap x1 * 256))) (IntKind.u32.wrap (IntKind.u32.wrap x2 * 65536))) (IntKind.u32.wrap (IntKind.u32.wrap x3 * 16777216)))) = _
  rw [e0, e1, e2, e3]
  simp (disch := omega) only [u32_or8, u32_or16, u32_or24]
set_option maxRecDepth 100000 in
set_option maxHeartbeats 1000000 in
theorem rdUInt32 (rd bf d : Nat) (ao : Option Addr) (b : Int) (bs : List Value) (w : World) (h : Rdr w rd bf d ao (leV 4 b ++ bs)) :
    Calls Tryz.prog 114 #[.pointer (some ⟨rd, 0, none⟩)] w fun e w' => e = .returned (.tuple #[.int .u32 (b % 4294967296), .nilIface]) ∧ Reads w w' rd bf d ao bs := by
  have hl4 : leV 4 b = [.int .u8 (byteAt b 0), .int .u8 (byteAt b 1), .int .u8 (byteAt b 2), .int .u8 (byteAt b 3)] := by simp [leV, List.range_succ]
  have ht4 : (leV 4 b ++ bs).take 4 = leV 4 b := by rw [List.take_append_of_le_length (by rw [leV_len]; decide), List.take_of_length_le (by rw [leV_len]; decide)]
  have hd4 : (leV 4 b ++ bs).drop 4 = bs := by rw [List.drop_append_of_le_length (by rw [leV_len]; decide), List.drop_of_length_le (by rw [leV_len]; decide), List.nil_append]
  go_enter Tryz.func114, Tryz.ntmps114
  go_wp2_with (go_at_call 121; (refine (readFullB rd bf d 4 ao _ _ h (by decide) (by decide) (by simp [leV_len])).mono ?_); rintro e w1 ⟨rfl, g, c1, hR1, hH1, hu1, hi1⟩)
  rw [hd4] at hR1
  rw [ht4] at hH1
  obtain ⟨o1, cc1, hb1, _, _⟩ := hR1.blk
  have q1 : w1.cell? ⟨rd, 1, none⟩ = some (.pointer (some ⟨bf, 0, none⟩)) := (by simp [World.cell?, hb1])
  have q2 := hH1.cell
  clear hb1 ht4 hd4
  refine wp_region_split (S := Upd [] w1) [(true, 0), (true, 1), (true, 2), (true, 3), (true, 4), (true, 5), (true, 6), (true, 7)] [] [8, 9, 10] (by kernel_rfl) (by kernel_rfl) (fun _ _ d _ _ h => by cases d <;> exact h) ((Upd.refl _ _).drew) ?_
  simp only [readsAt, opersAt, Option.map_some, List.filterMap_cons, List.filterMap_nil, List.getElem?_toArray, List.getElem?_cons_succ, List.getElem?_cons_zero]
  refine ⟨_, Or.inl ⟨by rfl, fun w' hS => by have e1 := Upd.cell1 hS q1 (by simp); have e2 := Upd.cell1 hS q2 (by simp); first | (go_simp; done) | (go_simp; with_reducible rfl)⟩, ?_⟩
  simp only [Act.put, List.setIfInBounds_toArray, List.set_cons_zero, List.set_cons_succ]
  refine ⟨_, Or.inl ⟨by rfl, fun w' hS => by first | (go_simp; done) | (go_simp; with_reducible rfl)⟩, ?_⟩
  simp only [Act.put, List.setIfInBounds_toArray, List.set_cons_zero, List.set_cons_succ]
  refine ⟨_, Or.inl ⟨by rfl, fun w' hS => by first | (go_simp; done) | (go_simp; with_reducible rfl)⟩, ?_⟩
  simp only [Act.put, List.setIfInBounds_toArray, List.set_cons_zero, List.set_cons_succ]
  refine ⟨_, Or.inl ⟨by rfl, fun w' hS => by first | (go_simp; done) | (go_simp; with_reducible rfl)⟩, ?_⟩
  simp only [Act.put, List.setIfInBounds_toArray, List.set_cons_zero, List.set_cons_succ]
  refine ⟨_, Or.inl ⟨by rfl, fun w' hS => by have e1 := Upd.cell1 hS q1 (by simp); have e2 := Upd.cell1 hS q2 (by simp); first | (go_simp; done) | (go_simp; with_reducible rfl)⟩, ?_⟩
  simp only [Act.put, List.setIfInBounds_toArray, List.set_cons_zero, List.set_cons_succ]
  refine ⟨_, Or.inl ⟨by rfl, fun w' hS => by first | (go_simp; done) | (go_simp; with_reducible rfl)⟩, ?_⟩
  simp only [Act.put, List.setIfInBounds_toArray, List.set_cons_zero, List.set_cons_succ]
  refine ⟨_, Or.inl ⟨by rfl, fun w' hS => by first | (go_simp; done) | (go_simp; with_reducible rfl)⟩, ?_⟩
  simp only [Act.put, List.setIfInBounds_toArray, List.set_cons_zero, List.set_cons_succ]
  refine ⟨_, Or.inl ⟨by rfl, fun w' hS => by have e1 := Upd.cell1 hS q1 (by simp); have e2 := Upd.cell1 hS q2 (by simp); first | (go_simp; done) | (go_simp; with_reducible rfl)⟩, ?_⟩
  simp only [Act.put, List.setIfInBounds_toArray, List.set_cons_zero, List.set_cons_succ]
  simp only [readsThen, preThen]
  change wpList _ _ _ [_, _, _] _ _
  have hd := (Upd.refl [] w1).drew
  have hg1 : g < w1.heap.size := hH1.own.lt g (by simp)
  have hr1 := hH1.own.view 0 (leV 4 b) (fun j v hj => by rw [Nat.zero_add]; exact hj)
  rw [hl4] at hr1
  go_wp2_with (go_at_call 122; (refine (Uint32v g c1 _ _ _ _ _ (hd.range hr1 hg1 (by simp)) hg1 (byteAt_range _ _) (byteAt_range _ _) (byteAt_range _ _) (byteAt_range _ _)).mono ?_); rintro e w2 ⟨rfl, hu2⟩)
  have hb : byteAt b 0 + byteAt b 1 * 256 + byteAt b 2 * 65536 + byteAt b 3 * 16777216 = b % 4294967296 := by
    simp only [byteAt]
    omega
  refine bodyPost_ret (results_tmp2 Tryz.results114 _ _ _) rfl ⟨by rw [← hb]; first | rfl | simp, ?_⟩
  exact Reads.trans hu1 hi1 ⟨_, hR1.kept hu2.ofDrew (by simp), (hu2.ofDrew).mono (by simp), In.self (fun _ h => h)⟩
set_option maxRecDepth 100000 in
set_option maxHeartbeats 1000000 in
theorem rdInt32 (rd bf d : Nat) (ao : Option Addr) (b : Int) (hb : -2147483648 ≤ b ∧ b < 2147483648) (bs : List Value) (w : World) (h : Rdr w rd bf d ao (leV 4 b ++ bs)) :
    Calls Tryz.prog 75 #[.pointer (some ⟨rd, 0, none⟩)] w fun e w' => e = .returned (.tuple #[.int .i32 b, .nilIface]) ∧ Reads w w' rd bf d ao bs := by
  have hw : IntKind.i32.wrap (b % 4294967296) = b := by simp only [IntKind.wrap_i32]; omega
  go_enter Tryz.func75, Tryz.ntmps75
  go_wp2_with (go_at_call 114; (refine (rdUInt32 rd bf d ao b bs _ h).mono ?_); rintro e w1 ⟨rfl, hR1⟩)
  refine bodyPost_ret (results_tmp2 Tryz.results75 _ _ _) rfl ⟨by first | rfl | simp, hR1⟩
end Go.Proofs.YtjhhjldonekmpaaGreatDoor
