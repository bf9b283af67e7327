/- Worlds, rows that a call owns, appends: the words of all contracts. -/
import Derived.WalkKit
import Derived.WalkSpells
import Derived.WalkLawsBesides
import Derived.Deep.QuietTactic
import Derived.BigQuiet
import Derived.Deep.RegionHeld3
import Derived.Deep.LoopGhost
import Derived.Deep.AppendSrc
import Derived.Lib.AppendZerosOnto
import Derived.Lib.Hide
import Derived.Deep.MidRow
import Derived.Deep.RegionLaw
import Derived.Test.YtfbohkbpgfnceaaGreatDoorDrawn
namespace Go.Proofs.YtfbohkbpgfnceaaGreatDoor
set_option linter.unusedVariables false
set_option linter.unusedSimpArgs false
open Go Go.RowKit

/-! ### worlds -/
/-- w' is w with new blocks, and writes to the blocks of F alone. -/
structure Upd (F : List Nat) (w w' : World) : Prop where
  os : w'.os = w.os
  tape : w'.tape = w.tape
  output : w'.output = w.output
  size : w.heap.size ≤ w'.heap.size
  block : ∀ k, k < w.heap.size → k ∉ F → w'.heap[k]? = w.heap[k]?

theorem Upd.refl (F : List Nat) (w : World) : Upd F w w := ⟨rfl, rfl, rfl, Nat.le_refl _, fun _ _ _ => rfl⟩
theorem Upd.trans {F G : List Nat} {a b c : World} (h : Upd F a b) (k : Upd G b c) (hG : ∀ x, x ∈ G → x ∈ F ∨ a.heap.size ≤ x) : Upd F a c :=
  ⟨k.os.trans h.os, k.tape.trans h.tape, k.output.trans h.output, Nat.le_trans h.size k.size,
   fun i hi hn => (k.block i (Nat.lt_of_lt_of_le hi h.size) (fun hg => (hG i hg).elim hn (fun h => by omega))).trans (h.block i hi hn)⟩
theorem Upd.mono {F G : List Nat} {a b : World} (h : Upd F a b) (hG : ∀ x, x ∈ F → x ∈ G ∨ a.heap.size ≤ x) : Upd G a b :=
  ⟨h.os, h.tape, h.output, h.size, fun i hi hn => h.block i hi (fun hf => (hG i hf).elim hn (fun h => by omega))⟩
theorem Upd.drew {F : List Nat} {a w : World} (h : Upd F a w) : Upd F a w.drew := ⟨h.os, h.tape, h.output, h.size, h.block⟩
theorem Upd.ofDrew {F : List Nat} {a w : World} (h : Upd F a.drew w) : Upd F a w := ⟨h.os, h.tape, h.output, h.size, h.block⟩
theorem Upd.alloc {F : List Nat} {a w : World} (h : Upd F a w) (o : Obj) : Upd F a (w.alloc o) :=
  h.trans (G := []) ⟨rfl, rfl, rfl, by simp, fun k hk _ => Below.heap_alloc _ _ _ hk⟩ (by simp)
theorem Upd.ofAlloc {F : List Nat} {a w : World} {o : Obj} (h : Upd F (a.alloc o) w) : Upd F a w := ((Upd.refl F a).alloc o).trans h (fun _ h => .inl h)
theorem Upd.setCell {F : List Nat} {a w : World} (h : Upd F a w) {p : Addr} (u : Value) (hp : p.block ∈ F ∨ a.heap.size ≤ p.block) : Upd F a (w.setCell p u) :=
  h.trans (G := [p.block]) ⟨rfl, rfl, rfl, by simp [World.setCell], fun k _ hk => Below.heap_setCell _ _ _ _ (by simpa using hk)⟩
    (by intro x hx; simp at hx; subst hx; exact hp)
theorem Upd.below {w w' : World} (h : Upd [] w w') : Below w.heap.size w w' := ⟨h.os, h.tape, h.output, h.size, fun k hk => h.block k hk (by simp)⟩
theorem Upd.cell {F : List Nat} {w w' : World} (h : Upd F w w') {p : Addr} (hp : p.block < w.heap.size) (hn : p.block ∉ F) : w'.cell? p = w.cell? p := World.cell?_of_block (h.block p.block hp hn)
theorem Upd.frozen {F : List Nat} {w w' : World} (h : Upd F w w') {p : Addr} (hp : p.block < w.heap.size) (hn : p.block ∉ F) : w'.frozen? p = w.frozen? p := World.frozen?_of_block (h.block p.block hp hn)
theorem Upd.at {F : List Nat} {w w' : World} (h : Upd F w w') {b : Nat} {o : Obj} (hb : w.heap[b]? = some o) (hn : b ∉ F) : w'.heap[b]? = some o := (h.block b (lt_of_block hb) hn).trans hb

/-! ### whose block -/
/-- the block of a slice's head -/
def bk : Option Addr → List Nat
  | some a => [a.block]
  | none => []
@[simp] theorem bk_none : bk none = [] := rfl
@[simp] theorem bk_some (a : Addr) : bk (some a) = [a.block] := rfl
/-- the slice is nil, or begins in a block of F or in one from B on. -/
def In (F : List Nat) (B : Nat) (ao : Option Addr) : Prop := ∀ x, x ∈ bk ao → x ∈ F ∨ B ≤ x
theorem In.nil {F : List Nat} {B : Nat} : In F B none := by intro g hg; simp at hg
theorem In.mono {F G : List Nat} {B B' : Nat} {ao : Option Addr} (h : In F B ao) (hB : B' ≤ B) (hG : ∀ x, x ∈ F → x ∈ G ∨ B' ≤ x) : In G B' ao := fun g hg => (h g hg).elim (hG g) (fun h => .inr (by omega))
theorem In.le {F : List Nat} {B B' : Nat} {ao : Option Addr} (h : In F B ao) (hB : B' ≤ B) : In F B' ao := h.mono hB (fun _ h => .inl h)
/-- what comes of v by appending -/
theorem In.step {F : List Nat} {B B' : Nat} {v v' : Option Addr} (h : In F B v) (h' : In (bk v) B' v') (hB : B ≤ B') : In F B v' := h'.mono hB h
theorem In.self {F : List Nat} {B : Nat} {ao : Option Addr} (h : ∀ x, x ∈ bk ao → x ∈ F) : In F B ao := fun x hx => .inl (h x hx)

theorem Upd.own {F : List Nat} {a b c : World} {v : Option Addr} (h : Upd F a b) (k : Upd (bk v) b c) (hv : In F a.heap.size v) : Upd F a c := h.trans k hv

/-! ### rows that are owned -/
/-- the slice (ao, n, c) owns a row of its own, whose first cells are xs -/
abbrev Row (w : World) (e : TypeId) (size : Nat) (ao : Option Addr) (n c : Nat) (xs : List Value) : Prop := w.ownsRow 0 e size (.slice ao n c) n xs
theorem Row.nil {w : World} {e : TypeId} {size : Nat} : Row w e size none 0 0 [] := World.ownsRow_nil _ _ _ _
theorem Row.upd {w w' : World} {e : TypeId} {size : Nat} {ao : Option Addr} {n c : Nat} {xs : List Value} {F : List Nat} (h : Row w e size ao n c xs) (hu : Upd F w w') (hF : ∀ x, x ∈ bk ao → x ∉ F) : Row w' e size ao n c xs := by
  refine ⟨h.1, ?_⟩
  rcases h.2 with hn | ⟨g, cap, cur, hv, hb, hgg, rest⟩
  · exact .inl hn
  · simp only [Value.slice.injEq] at hv
    obtain ⟨rfl, _, rfl⟩ := hv
    exact .inr ⟨g, c, cur, rfl, hb, hu.at hgg (hF g (by simp)), rest⟩
theorem Row.lt {w : World} {e : TypeId} {size : Nat} {ao : Option Addr} {n c : Nat} {xs : List Value} (h : Row w e size ao n c xs) : ∀ x, x ∈ bk ao → x < w.heap.size := by
  intro x hx
  cases ao with
  | none => simp at hx
  | some a => exact (World.ownsRow.lt h x (by simpa [Value.ownBlock, eq_comm] using hx)).2
theorem Row.len {w : World} {e : TypeId} {size : Nat} {ao : Option Addr} {n c : Nat} {xs : List Value} (h : Row w e size ao n c xs) : xs.length = n * size := h.1
/-- where there is an element: the head -/
theorem Row.head {w : World} {e : TypeId} {size : Nat} {ao : Option Addr} {n c : Nat} {xs : List Value} (h : Row w e size ao n c xs) (hn : 0 < n) : ∃ g, ao = some ⟨g, 0, none⟩ := by
  rcases h.2 with ⟨_, h0⟩ | ⟨g, cap, cur, hv, _⟩
  · omega
  · simp only [Value.slice.injEq] at hv
    exact ⟨g, hv.1⟩
theorem Row.head_or {w : World} {e : TypeId} {size : Nat} {ao : Option Addr} {n c : Nat} {xs : List Value} (h : Row w e size ao n c xs) : (ao = none ∧ n = 0 ∧ c = 0 ∧ xs = []) ∨ ∃ g, ao = some ⟨g, 0, none⟩ := by
  rcases h.2 with ⟨h1, h0⟩ | ⟨g, cap, cur, hv, _⟩
  · simp only [Value.slice.injEq] at h1
    obtain ⟨rfl, _, rfl⟩ := h1
    exact .inl ⟨rfl, h0, rfl, List.eq_nil_of_length_eq_zero (by rw [h.1, h0]; simp)⟩
  · simp only [Value.slice.injEq] at hv
    exact .inr ⟨g, hv.1⟩
theorem Row.cell {w : World} {e : TypeId} {size : Nat} {g n c : Nat} {xs : List Value} (h : Row w e size (some ⟨g, 0, none⟩) n c xs) {j : Nat} {u : Value} (hu : xs[j]? = some u) : w.cell? ⟨g, j, none⟩ = some u := by
  have := World.ownsRow.cells h (g := g) rfl j u hu
  rwa [Addr.add_lit, Nat.zero_add] at this

section
variable {P : Program}
theorem run_app (w : World) (t tx ty e : TypeId) (z : Value) (size bytes : Nat) (ht : P.underlying t = some (.slice e))
    (hinfo : (P.info? e).map (fun i => (i.zero, i.size, i.bytes)) = some (some z, size, bytes)) (hzs : z.cells.size = size) (_hsz : 0 < size)
    (ao : Option Addr) (n cp : Nat) (xs : List Value) (hown : Row w e size ao n cp xs)
    (x : Value) (m : Nat) (news : List Value) (hs : Src P size tx x m news w) (hb0 : 0 < bytes) (hbytes : (n + m) * bytes ≤ 140737488355328) :
    ∃ ao' c' w', (Builtin.append_ #[t, tx] ty #[.slice ao n cp, x]).run P w = .ok (.slice ao' (n + m) c') w' ∧ Row w' e size ao' (n + m) c' (xs ++ news) ∧ Upd (bk ao) w w' ∧ In (bk ao) w.heap.size ao' := by
  have h63 : n + m ≤ maxLen := by have := Nat.le_mul_of_pos_right (n + m) hb0; unfold maxLen; omega
  obtain ⟨i, hi, hz, hsize, hby⟩ := info_parts hinfo
  subst hsize
  subst hby
  have hsmall : n + m ≤ 9223372036854775807 := by simp only [maxLen] at h63; omega
  have hl := hs.newsLen
  have hlen : (xs ++ news).length = (n + m) * i.size := by rw [List.length_append, hown.1, hl, Nat.add_mul]
  have grown : ∀ (old : Nat), old < n + m → ∀ (F : List Nat),
      (w.drew.alloc (.cells ((xs ++ news).toArray ++ Builtin.zeroCells z.cells (grownCap w (n + m) old e - (n + m))) e)).ownsRow 0 e i.size
        (.slice (some ⟨w.heap.size, 0, none⟩) (n + m) (grownCap w (n + m) old e)) (n + m) (xs ++ news) ∧
      Upd F w (w.drew.alloc (.cells ((xs ++ news).toArray ++ Builtin.zeroCells z.cells (grownCap w (n + m) old e - (n + m))) e)) := by
    intro old ho F
    have hge := grownCap_ge w (n + m) old e
    have hcm : grownCap w (n + m) old e ≤ maxLen := grownCap_le_maxLen w (n + m) old e h63
    refine ⟨⟨hlen, .inr ⟨w.heap.size, _, _, rfl, Nat.zero_le _, heap_alloc_new w.drew _, hge, hcm, ?_, ?_⟩⟩, (Upd.refl F w).drew.alloc _⟩
    · rw [Array.size_append, List.size_toArray, hlen, size_zeroCells, hzs, ← Nat.add_mul]
      congr 1
      omega
    · rw [Array.toList_append, ← hlen]
      exact List.take_left
  rcases hown.2 with ⟨hv, rfl⟩ | ⟨g, cap, cur, hv, hbg, hg, hnc, hcm, hcs, htake⟩ <;> (simp only [Value.slice.injEq] at hv; obtain ⟨rfl, _, rfl⟩ := hv)
  · have hx : xs = [] := List.eq_nil_of_length_eq_zero (by simpa using hown.1)
    subst hx
    by_cases hm : m = 0
    · subst hm
      have hn : news = [] := List.eq_nil_of_length_eq_zero (by simpa using hl)
      subst hn
      refine ⟨none, 0, w, ?_, World.ownsRow_nil w 0 e i.size, Upd.refl _ _, In.nil⟩
      rcases hs.kind with ⟨e', hk⟩ | hk <;> simp [Builtin.append_, run_underlying ht, run_underlying hk, sizeOf, typeInfo, hi, hs.len, hs.cells]
    · have hr := run_append_grow_src (P := P) w t tx ty e i z ht hi hz none 0 0 [] (run_firstCells_none w.drew i.size 0 0 0) x m news hs (by omega) (by omega) (by
        have hb := hbytes; rw [Nat.zero_add] at hb ⊢; rw [nextslicecap_zero (by omega)]; omega)
      have hgr := grown 0 (by omega) []
      exact ⟨_, _, _, hr, hgr.1, hgr.2, fun g hg => by simp at hg; exact .inr (by omega)⟩
  · by_cases hroom : n + m ≤ cp
    · have hfit : n * i.size + news.length ≤ cur.size := by rw [hl, hcs, ← Nat.add_mul]; exact Nat.mul_le_mul_right _ hroom
      have hst := run_storeCells_at P g (n * i.size) e news 0 cur w hg (by simpa using hfit) hs.one
      simp only [Nat.add_zero] at hst
      refine ⟨some ⟨g, 0, none⟩, cp, w.setRow g (cur.toList.take (n * i.size) ++ news ++ cur.toList.drop (n * i.size + news.length)).toArray, ?_, ⟨hlen, .inr ⟨g, cp, _, rfl, hbg, setRow_heap w g cur _ e _ hg, hroom, hcm, ?_, ?_⟩⟩, ⟨rfl, rfl, rfl, by simp, fun k _ hk => setRow_other w g k _ (fun e => hk (by simp [e]))⟩, fun g' hg' => .inl hg'⟩
      · rcases hs.kind with ⟨e', hk⟩ | hk <;> simp [Builtin.append_, run_underlying ht, run_underlying hk, sizeOf, typeInfo, hi, hs.len, hroom, hs.cells, Addr.add_lit, hst]
      · simp only [List.size_toArray, List.length_append, List.length_take, List.length_drop, Array.length_toList]
        omega
      · rw [htake, ← hlen]
        exact List.take_left
    · have holds : ∀ j u, xs[j]? = some u → w.cell? ((⟨g, 0, none⟩ : Addr).add j) = some u := hown.cells (g := g) rfl
      have hr := run_append_grow_src (P := P) w t tx ty e i z ht hi hz (some ⟨g, 0, none⟩) n cp xs (run_firstCells_some w.drew i.size n ⟨g, 0, none⟩ n cp xs hown.1 (by simpa using holds)) x m news hs (by omega) (by omega) (growslice_fits (by omega) hbytes)
      have hgr := grown cp (by omega) [g]
      exact ⟨_, _, _, hr, hgr.1, hgr.2, fun g' hg' => by simp at hg'; exact .inr (by omega)⟩

theorem wpList_app (w : World) {ops : Array Oper} {rest : List Oper} {o : Oper} {a : Act} {Q : Exit → Act → World → Prop} (hgd : o.guard = none) (s x : Operand) (t tx : TypeId)
    (ho : o.op = .call { callee := .builtin .append, args := #[s, x], argTypes := #[t, tx] })
    (e : TypeId) (z : Value) (size bytes : Nat) (ht : P.underlying t = some (.slice e))
    (hinfo : (P.info? e).map (fun i => (i.zero, i.size, i.bytes)) = some (some z, size, bytes)) (hzs : z.cells.size = size) (hsz : 0 < size)
    {ao : Option Addr} {n cp : Nat} {xs : List Value} (hown : Row w e size ao n cp xs) (hs : a.eval s = .slice ao n cp)
    {vx : Value} {m : Nat} {news : List Value} (hsrc : Src P size tx vx m news w) (hx : a.eval x = vx) (hb0 : 0 < bytes) (hbytes : (n + m) * bytes ≤ 140737488355328)
    (h : ∀ ao' c' w', Row w' e size ao' (n + m) c' (xs ++ news) → Upd (bk ao) w w' → In (bk ao) w.heap.size ao' → wpList P ops Q rest (a.put o.dst (.slice ao' (n + m) c')) w') : wpList P ops Q (o :: rest) a w :=
  wpList_plain hgd fun K hK => by
    obtain ⟨ao', c', w', hr, h2, h3, h5⟩ := run_app (P := P) w t tx o.type e z size bytes ht hinfo hzs hsz ao n cp xs hown vx m news hsrc hb0 hbytes
    unfold Oper.wp execOp
    simp only [ho, resolve, invoke, builtin, Sem.run_bind, Sem.run_pure, Result.andThen_ok, List.map_toArray, List.map_cons, List.map_nil, hs, hx, hr]
    exact hK _ _ (h ao' c' w' h2 h3 h5)

/-- append(xs, x): x's cells were laid in a block of their own just before. -/
theorem wpList_app1 (w : World) {ops : Array Oper} {rest : List Oper} {o : Oper} {a : Act} {Q : Exit → Act → World → Prop} (hgd : o.guard = none) (s x : Operand) (t : TypeId)
    (ho : o.op = .call { callee := .builtin .append, args := #[s, x], argTypes := #[t, t] })
    (e : TypeId) (z : Value) (size bytes : Nat) (ht : P.underlying t = some (.slice e))
    (hinfo : (P.info? e).map (fun i => (i.zero, i.size, i.bytes)) = some (some z, size, bytes)) (hzs : z.cells.size = size) (hsz : 0 < size)
    {ao : Option Addr} {n cp : Nat} {xs : List Value} (hown : Row w e size ao n cp xs) (hs : a.eval s = .slice ao n cp) (us : List Value) {cs : Array Value} (hcs : cs = us.toArray) (hl : us.length = size)
    (hx : a.eval x = .slice (some ⟨w.heap.size, 0, none⟩) 1 1) (h1 : ∀ u ∈ us, u.oneCell' = true) (hb0 : 0 < bytes) (hbytes : (n + 1) * bytes ≤ 140737488355328)
    (h : ∀ ao' c' w', Row w' e size ao' (n + 1) c' (xs ++ us) → Upd (bk ao) w w' → In (bk ao) w.heap.size ao' → wpList P ops Q rest (a.put o.dst (.slice ao' (n + 1) c')) w') :
    wpList P ops Q (o :: rest) a (w.alloc (.cells cs e)) := by
  subst hcs
  refine wpList_app _ hgd s x t t ho e z size bytes ht hinfo hzs hsz (hown.alloc _) hs (Src.ofSlice _ ht ⟨w.heap.size, 0, none⟩ 1 1 us (by omega) ?_ h1) hx hb0 hbytes ?_
  · intro j u hj
    rw [Addr.add_lit, World.cell?_alloc_at (w := w) us.toArray e w.heap.size (0 + j) rfl]
    simpa using hj
  · intro ao' c' w' h2 h3 h4
    exact h ao' c' w' h2 h3.ofAlloc (h4.le (by simp))

theorem wpList_app1d (w : World) {ops : Array Oper} {rest : List Oper} {o : Oper} {a : Act} {Q : Exit → Act → World → Prop} (hgd : o.guard = none) (s x : Operand) (t : TypeId)
    (ho : o.op = .call { callee := .builtin .append, args := #[s, x], argTypes := #[t, t] })
    (e : TypeId) (z : Value) (size bytes : Nat) (ht : P.underlying t = some (.slice e))
    (hinfo : (P.info? e).map (fun i => (i.zero, i.size, i.bytes)) = some (some z, size, bytes)) (hzs : z.cells.size = size) (hsz : 0 < size)
    {ao : Option Addr} {n cp : Nat} {xs : List Value} (hown : Row w e size ao n cp xs) (hs : a.eval s = .slice ao n cp) (us : List Value) {cs : Array Value} (hcs : cs = us.toArray) (hl : us.length = size)
    (hx : a.eval x = .slice (some ⟨w.heap.size, 0, none⟩) 1 1) (h1 : ∀ u ∈ us, u.oneCell' = true) (hb0 : 0 < bytes) (hbytes : (n + 1) * bytes ≤ 140737488355328)
    (h : ∀ ao' c' w', Row w' e size ao' (n + 1) c' (xs ++ us) → Upd (bk ao) w w' → In (bk ao) w.heap.size ao' → wpList P ops Q rest (a.put o.dst (.slice ao' (n + 1) c')) w') :
    wpList P ops Q (o :: rest) a (w.alloc (.cells cs e)).drew :=
  wpList_app1 w.drew hgd s x t ho e z size bytes ht hinfo hzs hsz (World.ownsRow.drew hown) hs us hcs hl hx h1 hb0 hbytes fun ao' c' w' h2 h3 h4 => h ao' c' w' h2 h3.ofDrew h4

/-- append(xs, make([]T, m)...), m > 0 -/
theorem run_app_zeros (w : World) (t tn ty e : TypeId) (z : Value) (size bytes : Nat) (kq kn : IntKind) (ht : P.underlying t = some (.slice e)) (htn : P.underlying tn = some (.int kn))
    (hinfo : (P.info? e).map (fun i => (i.zero, i.size, i.bytes)) = some (some z, size, bytes)) (hzs : z.cells.size = size) (hsz : 0 < size) (hz1 : ∀ u ∈ z.cells.toList, u.oneCell' = true)
    (ao : Option Addr) (n cp : Nat) (xs : List Value) (hown : Row w e size ao n cp xs) (m : Nat) (h0 : 0 < m) (hb0 : 0 < bytes) (hbytes : (n + m) * bytes ≤ 140737488355328) :
    ∃ ao' c' w', (Builtin.append_ #[t, tn] ty #[.slice ao n cp, .int kq m]).run P w = .ok (.slice ao' (n + m) c') w' ∧ Row w' e size ao' (n + m) c' (xs ++ (Builtin.zeroCells z.cells m).toList) ∧ Upd (bk ao) w w' ∧ In (bk ao) w.heap.size ao' := by
  have h63 : n + m ≤ maxLen := by have := Nat.le_mul_of_pos_right (n + m) hb0; unfold maxLen; omega
  obtain ⟨i, hi, hz, hsize, hby⟩ := info_parts hinfo
  subst hsize
  subst hby
  have hsmall : n + m ≤ 9223372036854775807 := by simp only [maxLen] at h63; omega
  have hl : (Builtin.zeroCells z.cells m).toList.length = m * i.size := by rw [Array.length_toList, size_zeroCells, hzs]
  have hlen : (xs ++ (Builtin.zeroCells z.cells m).toList).length = (n + m) * i.size := by rw [List.length_append, hown.1, hl, Nat.add_mul]
  have hmb : m * i.bytes ≤ 140737488355328 := Nat.le_trans (Nat.mul_le_mul_right _ (by omega)) hbytes
  have grown : ∀ (old : Nat), old < n + m → ∀ (F : List Nat),
      (w.drew.alloc (.cells (xs.toArray ++ Builtin.zeroCells z.cells m ++ Builtin.zeroCells z.cells (grownCap w (n + m) old e - (n + m))) e)).ownsRow 0 e i.size
        (.slice (some ⟨w.heap.size, 0, none⟩) (n + m) (grownCap w (n + m) old e)) (n + m) (xs ++ (Builtin.zeroCells z.cells m).toList) ∧
      Upd F w (w.drew.alloc (.cells (xs.toArray ++ Builtin.zeroCells z.cells m ++ Builtin.zeroCells z.cells (grownCap w (n + m) old e - (n + m))) e)) := by
    intro old ho F
    have hge := grownCap_ge w (n + m) old e
    have hcm : grownCap w (n + m) old e ≤ maxLen := grownCap_le_maxLen w (n + m) old e h63
    refine ⟨⟨hlen, .inr ⟨w.heap.size, _, _, rfl, Nat.zero_le _, heap_alloc_new w.drew _, hge, hcm, ?_, ?_⟩⟩, (Upd.refl F w).drew.alloc _⟩
    · simp only [Array.size_append, List.size_toArray, size_zeroCells, hzs, hown.1, ← Nat.add_mul]
      congr 1
      omega
    · simp only [Array.toList_append]
      rw [← hlen]
      exact List.take_left
  rcases hown.2 with ⟨hv, rfl⟩ | ⟨g, cap, cur, hv, hbg, hg, hnc, hcm, hcs, htake⟩ <;> (simp only [Value.slice.injEq] at hv; obtain ⟨rfl, _, rfl⟩ := hv)
  · have hx : xs = [] := List.eq_nil_of_length_eq_zero (by simpa using hown.1)
    subst hx
    have hr := Lib.run_append_grow_zeros (P := P) w t tn ty e i z kq kn ht htn hi hz none 0 0 [] (run_firstCells_none w.drew i.size 0 0 0) m h0 hsz (by omega) (by omega) (by omega) (by
      rw [Nat.zero_add, nextslicecap_zero (by omega)]; omega)
    have hgr := grown 0 (by omega) []
    exact ⟨_, _, _, hr, hgr.1, hgr.2, fun g hg => by simp at hg; exact .inr (by omega)⟩
  · by_cases hroom : n + m ≤ cp
    · have hfit : n * i.size + (Builtin.zeroCells z.cells m).toList.length ≤ cur.size := by rw [hl, hcs, ← Nat.add_mul]; exact Nat.mul_le_mul_right _ hroom
      have hst := run_storeCells_at P g (n * i.size) e (Builtin.zeroCells z.cells m).toList 0 cur w hg (by simpa using hfit) (by
        intro u hu
        simp only [Builtin.zeroCells, Array.toList_map, List.mem_map] at hu
        obtain ⟨j, _, rfl⟩ := hu
        apply hz1
        rw [getElem!_pos z.cells (j % z.cells.size) (Nat.mod_lt _ (by omega))]
        simp)
      simp only [Nat.add_zero] at hst
      refine ⟨some ⟨g, 0, none⟩, cp, w.setRow g (cur.toList.take (n * i.size) ++ (Builtin.zeroCells z.cells m).toList ++ cur.toList.drop (n * i.size + (Builtin.zeroCells z.cells m).toList.length)).toArray, ?_, ⟨hlen, .inr ⟨g, cp, _, rfl, hbg, setRow_heap w g cur _ e _ hg, hroom, hcm, ?_, ?_⟩⟩, ⟨rfl, rfl, rfl, by simp, fun k _ hk => setRow_other w g k _ (fun e => hk (by simp [e]))⟩, fun g' hg' => .inl hg'⟩
      · have hk : m ≠ 0 := by omega
        have hw : IntKind.i64.wrap (m : Int) = m := by rw [IntKind.wrap_i64]; omega
        have h48i : ¬ (281474976710656 < (m : Int) * (i.bytes : Int)) := by
          rw [← Int.natCast_mul]
          omega
        have hneg : ¬ ((m : Int) < 0) := by omega
        have hns : ¬ (m * i.size = 0) := Nat.mul_ne_zero hk (by omega)
        simp [Builtin.append_, run_underlying ht, run_underlying htn, sizeOf, typeInfo, zeroValue, hi, hz, asInt, asIntOf, hw, hneg, hns, h48i, hroom, Addr.add_lit, hst]
      · simp only [List.size_toArray, List.length_append, List.length_take, List.length_drop]
        rw [hl] at hfit ⊢
        simp only [Array.length_toList]
        omega
      · rw [htake, ← hlen]
        exact List.take_left
    · have holds : ∀ j u, xs[j]? = some u → w.cell? ((⟨g, 0, none⟩ : Addr).add j) = some u := hown.cells (g := g) rfl
      have hr := Lib.run_append_grow_zeros (P := P) w t tn ty e i z kq kn ht htn hi hz (some ⟨g, 0, none⟩) n cp xs (run_firstCells_some w.drew i.size n ⟨g, 0, none⟩ n cp xs hown.1 (by simpa using holds)) m h0 hsz (by omega) (by omega) (by omega) (growslice_fits (by omega) hbytes)
      have hgr := grown cp (by omega) [g]
      exact ⟨_, _, _, hr, hgr.1, hgr.2, fun g' hg' => by simp at hg'; exact .inr (by omega)⟩

theorem wpList_zeros (w : World) {ops : Array Oper} {rest : List Oper} {o : Oper} {a : Act} {Q : Exit → Act → World → Prop} (hgd : o.guard = none) (s x : Operand) (t tn : TypeId)
    (ho : o.op = .call { callee := .builtin .append, args := #[s, x], argTypes := #[t, tn] })
    (e : TypeId) (z : Value) (size bytes : Nat) (kn : IntKind) (ht : P.underlying t = some (.slice e)) (htn : P.underlying tn = some (.int kn))
    (hinfo : (P.info? e).map (fun i => (i.zero, i.size, i.bytes)) = some (some z, size, bytes)) (hzs : z.cells.size = size) (hsz : 0 < size) (hz1 : ∀ u ∈ z.cells.toList, u.oneCell' = true)
    {ao : Option Addr} {n cp : Nat} {xs : List Value} (hown : Row w e size ao n cp xs) (hs : a.eval s = .slice ao n cp)
    {kq : IntKind} {M : Int} (m : Nat) (hM : M = m) (hx : a.eval x = .int kq M) (h0 : 0 < m) (hb0 : 0 < bytes) (hbytes : (n + m) * bytes ≤ 140737488355328)
    (h : ∀ ao' c' w', Row w' e size ao' (n + m) c' (xs ++ (Builtin.zeroCells z.cells m).toList) → Upd (bk ao) w w' → In (bk ao) w.heap.size ao' → wpList P ops Q rest (a.put o.dst (.slice ao' (n + m) c')) w') : wpList P ops Q (o :: rest) a w :=
  wpList_plain hgd fun K hK => by
    subst hM
    obtain ⟨ao', c', w', hr, h2, h3, h5⟩ := run_app_zeros (P := P) w t tn o.type e z size bytes kq kn ht htn hinfo hzs hsz hz1 ao n cp xs hown m h0 hb0 hbytes
    unfold Oper.wp execOp
    simp only [ho, resolve, invoke, builtin, Sem.run_bind, Sem.run_pure, Result.andThen_ok, List.map_toArray, List.map_cons, List.map_nil, hs, hx, hr]
    exact hK _ _ (h ao' c' w' h2 h3 h5)
end

/-! ### a variable that holds a slice of its own -/
/-- block p is one variable of type T, which holds the slice (ao, n, c) of elements of type e, whose cells are xs. -/
structure Hold (w : World) (p : Nat) (T e : TypeId) (size : Nat) (ao : Option Addr) (n c : Nat) (xs : List Value) : Prop where
  blk : w.heap[p]? = some (.cells #[.slice ao n c] T (0, 0))
  own : Row w e size ao n c xs
  ne : p ∉ bk ao
section
variable {w w1 : World} {p : Nat} {T e : TypeId} {size : Nat} {ao : Option Addr} {n c : Nat} {xs : List Value}
theorem Hold.lt (h : Hold w p T e size ao n c xs) : p < w.heap.size := lt_of_block h.blk
theorem Hold.cell (h : Hold w p T e size ao n c xs) : w.cell? ⟨p, 0, none⟩ = some (.slice ao n c) := cell_of_one h.blk
theorem Hold.free (h : Hold w p T e size ao n c xs) : w.frozen? ⟨p, 0, none⟩ = false := free_of_one h.blk
theorem Hold.in (h : Hold w p T e size ao n c xs) {ao' : Option Addr} (hi : In (bk ao) w.heap.size ao') : p ∉ bk ao' := by
  intro hg
  rcases hi p hg with h1 | h1
  · exact h.ne h1
  · have := h.lt; omega
theorem Hold.kept (h : Hold w p T e size ao n c xs) {F : List Nat} (hu : Upd F w w1) (hp : p ∉ F) (hF : ∀ x, x ∈ bk ao → x ∉ F) : Hold w1 p T e size ao n c xs := ⟨hu.at h.blk hp, h.own.upd hu hF, h.ne⟩
/-- behind an append: the row has grown, the variable is still as it was; then it is stored. -/
theorem Hold.cell1 (h : Hold w p T e size ao n c xs) (hu : Upd (bk ao) w w1) : w1.cell? ⟨p, 0, none⟩ = some (.slice ao n c) := cell_of_one (hu.at h.blk h.ne)
theorem Hold.free1 (h : Hold w p T e size ao n c xs) (hu : Upd (bk ao) w w1) : w1.frozen? ⟨p, 0, none⟩ = false := free_of_one (hu.at h.blk h.ne)
theorem Hold.after (h : Hold w p T e size ao n c xs) {ao' : Option Addr} {m c' : Nat} {ys : List Value}
    (ho : Row w1 e size ao' m c' ys) (hu : Upd (bk ao) w w1) (hi : In (bk ao) w.heap.size ao') : Hold (w1.setCell ⟨p, 0, none⟩ (.slice ao' m c')) p T e size ao' m c' ys := by
  have hne := h.in hi
  exact ⟨one_setCell (hu.at h.blk h.ne), ownsRow_setCell_other ho (by cases ao' <;> simp_all [Value.ownBlock, eq_comm]) _, hne⟩
theorem Hold.upd (_h : Hold w p T e size ao n c xs) (hu : Upd (bk ao) w w1) (u : Value) : Upd (p :: bk ao) w (w1.setCell ⟨p, 0, none⟩ u) := (hu.mono (by simp +contextual)).setCell _ (by simp)
end
section
variable {P : Program} {ops : Array Oper} {o : Oper} {a : Act} {K : Act → World → Prop} {Q : Exit → Act → World → Prop} {E : Prop}
/-- append as one step of a region that draws its order -/
theorem step_app (w : World) (hg : o.guard = none) (s x : Operand) (t tx : TypeId) (ho : o.op = Op.call { callee := Callee.builtin Builtin.append, args := #[s, x], argTypes := #[t, tx] })
    (e : TypeId) (z : Value) (size bytes : Nat) (ht : P.underlying t = some (.slice e))
    (hinfo : (P.info? e).map (fun i => (i.zero, i.size, i.bytes)) = some (some z, size, bytes)) (hzs : z.cells.size = size) (hsz : 0 < size)
    {ao : Option Addr} {n cp : Nat} {xs : List Value} (hown : Row w e size ao n cp xs) (hs : a.eval s = .slice ao n cp)
    {vx : Value} {m : Nat} {news : List Value} (hsrc : Src P size tx vx m news w) (hx : a.eval x = vx) (hb0 : 0 < bytes) (hbytes : (n + m) * bytes ≤ 140737488355328)
    (h : ∀ ao' c' w', Row w' e size ao' (n + m) c' (xs ++ news) → Upd (bk ao) w w' → In (bk ao) w.heap.size ao' → K (a.put o.dst (.slice ao' (n + m) c')) w') :
    if Region.wanted o (yielded ops a.tmps) = true then Oper.wp P o a w K Q else E := by
  have hw : Region.wanted o (yielded ops a.tmps) = true := by simp [Region.wanted, hg]
  rw [if_pos hw]
  obtain ⟨ao', c', w', hr, h2, h3, h5⟩ := run_app (P := P) w t tx o.type e z size bytes ht hinfo hzs hsz ao n cp xs hown vx m news hsrc hb0 hbytes
  unfold Oper.wp execOp
  simp only [ho, resolve, invoke, builtin, Sem.run_bind, Sem.run_pure, Result.andThen_ok, List.map_toArray, List.map_cons, List.map_nil, hs, hx, hr]
  exact h ao' c' w' h2 h3 h5
theorem step_app1 (w : World) (hg : o.guard = none) (s x : Operand) (t : TypeId) (ho : o.op = Op.call { callee := Callee.builtin Builtin.append, args := #[s, x], argTypes := #[t, t] })
    (e : TypeId) (z : Value) (size bytes : Nat) (ht : P.underlying t = some (.slice e))
    (hinfo : (P.info? e).map (fun i => (i.zero, i.size, i.bytes)) = some (some z, size, bytes)) (hzs : z.cells.size = size) (hsz : 0 < size)
    {ao : Option Addr} {n cp : Nat} {xs : List Value} (hown : Row w e size ao n cp xs) (hs : a.eval s = .slice ao n cp) (us : List Value) {cs : Array Value} (hcs : cs = us.toArray) (hl : us.length = size)
    (hx : a.eval x = .slice (some ⟨w.heap.size, 0, none⟩) 1 1) (h1 : ∀ u ∈ us, u.oneCell' = true) (hb0 : 0 < bytes) (hbytes : (n + 1) * bytes ≤ 140737488355328)
    (h : ∀ ao' c' w', Row w' e size ao' (n + 1) c' (xs ++ us) → Upd (bk ao) w w' → In (bk ao) w.heap.size ao' → K (a.put o.dst (.slice ao' (n + 1) c')) w') :
    if Region.wanted o (yielded ops a.tmps) = true then Oper.wp P o a (w.alloc (.cells cs e)) K Q else E := by
  subst hcs
  refine step_app _ hg s x t t ho e z size bytes ht hinfo hzs hsz (hown.alloc _) hs (Src.ofSlice _ ht ⟨w.heap.size, 0, none⟩ 1 1 us (by omega) ?_ h1) hx hb0 hbytes ?_
  · intro j u hj
    rw [Addr.add_lit, World.cell?_alloc_at (w := w) us.toArray e w.heap.size (0 + j) rfl]
    simpa using hj
  · intro ao' c' w' h2 h3 h4
    exact h ao' c' w' h2 h3.ofAlloc (h4.le (by simp))
/-- the same, behind a draw -/
theorem step_app1d (w : World) (hg : o.guard = none) (s x : Operand) (t : TypeId) (ho : o.op = Op.call { callee := Callee.builtin Builtin.append, args := #[s, x], argTypes := #[t, t] })
    (e : TypeId) (z : Value) (size bytes : Nat) (ht : P.underlying t = some (.slice e))
    (hinfo : (P.info? e).map (fun i => (i.zero, i.size, i.bytes)) = some (some z, size, bytes)) (hzs : z.cells.size = size) (hsz : 0 < size)
    {ao : Option Addr} {n cp : Nat} {xs : List Value} (hown : Row w e size ao n cp xs) (hs : a.eval s = .slice ao n cp) (us : List Value) {cs : Array Value} (hcs : cs = us.toArray) (hl : us.length = size)
    (hx : a.eval x = .slice (some ⟨w.heap.size, 0, none⟩) 1 1) (h1 : ∀ u ∈ us, u.oneCell' = true) (hb0 : 0 < bytes) (hbytes : (n + 1) * bytes ≤ 140737488355328)
    (h : ∀ ao' c' w', Row w' e size ao' (n + 1) c' (xs ++ us) → Upd (bk ao) w w' → In (bk ao) w.heap.size ao' → K (a.put o.dst (.slice ao' (n + 1) c')) w') :
    if Region.wanted o (yielded ops a.tmps) = true then Oper.wp P o a (w.alloc (.cells cs e)).drew K Q else E :=
  step_app1 w.drew hg s x t ho e z size bytes ht hinfo hzs hsz (World.ownsRow.drew hown) hs us hcs hl hx h1 hb0 hbytes fun ao' c' w' h2 h3 h4 => h ao' c' w' h2 h3.ofDrew h4
end
theorem foldl_set_all (x : List Value) : ∀ (zs : Array Value) (o : Nat), o + x.length ≤ zs.size →
    (List.foldl (fun cs (p : Value × Nat) => cs.setIfInBounds p.2 p.1) zs (x.zipIdx o)).toList = zs.toList.take o ++ x ++ zs.toList.drop (o + x.length) := by
  induction x with
  | nil => intro zs o h; simp
  | cons u x ih =>
    intro zs o h
    simp only [List.length_cons] at h
    simp only [List.zipIdx_cons, List.foldl_cons]
    rw [ih _ _ (by simp; omega)]
    simp only [Array.toList_setIfInBounds, List.length_cons]
    rw [List.take_succ_eq_append_getElem (by simp; omega)]
    rw [List.take_set_of_le (by omega)]
    simp only [List.getElem_set_self, List.append_assoc, List.cons_append, List.nil_append]
    rw [List.drop_set_of_lt (by omega)]
    simp only [show o + 1 + x.length = o + (x.length + 1) by omega]
theorem foldl_set (zs : Array Value) (x : List Value) (h : x.length = zs.size) : List.foldl (fun cs (p : Value × Nat) => cs.setIfInBounds p.2 p.1) zs x.zipIdx = x.toArray := by
  apply Array.ext'
  rw [foldl_set_all x zs 0 (by omega)]
  simp [h]

theorem Upd.range {F : List Nat} {w w' : World} (h : Upd F w w') {b o : Nat} {cs : List Value} (hc : w.rangeAt b o cs) (hb : b < w.heap.size) (hn : b ∉ F) : w'.rangeAt b o cs := fun j v hj => (h.cell (p := ⟨b, o + j, none⟩) hb hn).trans (hc j v hj)
theorem Upd.cell1 {F : List Nat} {w w' : World} (h : Upd F w w') {p : Addr} {v : Value} (hc : w.cell? p = some v) (hn : p.block ∉ F) : w'.cell? p = some v := (h.cell (World.block_lt_of_cell? w p hc) hn).trans hc

/-! ### operations of a drawn region that want a word of their own -/
section
variable {P : Program} {ops : Array Oper} {S : World → Prop} {o : Oper} {a : Act}
/-- x[lo:hi], within the capacity -/
theorem run_slice_at (T e : TypeId) (sz : Nat) (w : World) (hu : P.underlying T = some (.slice e)) (hsz : (P.info? e).map (·.size) = some sz) (b off n c : Nat) {kl kh : IntKind} (lo hi : Nat) (h1 : lo ≤ hi) (h2 : hi ≤ c) (h3 : lo < c) :
    (Instr.slice T (.slice (some ⟨b, off, none⟩) n c) (some (.int kl lo)) (some (.int kh hi)) none).run P w = .ok (.slice (some ⟨b, off + lo * sz, none⟩) (hi - lo) (c - lo)) w := by
  have he : P.elem T = e := by simp [Program.elem, hu]
  obtain ⟨i, hi1, hi2⟩ := Option.map_eq_some_iff.1 hsz
  have hr := run_slice_lh (P := P) (w := w) T (some ⟨b, off, none⟩) n c (by rw [he]; exact hu) kl kh (lo : Int) (hi : Int) (by omega) (by omega) (by omega)
  rw [hr, he]
  have hne : ¬ c = lo := by omega
  simp [sizeOf, typeInfo, hi1, hi2, Result.andThen, sliced, hne, Addr.add_lit]
theorem yields_slice (hg : o.guard = none) (T e : TypeId) (sz : Nat) (x l h : Operand) (ho : o.op = .slice T x (some l) (some h) none) (hu : P.underlying T = some (.slice e)) (hsz : (P.info? e).map (·.size) = some sz) (b off n c : Nat) (hx : a.eval x = .slice (some ⟨b, off, none⟩) n c)
    (L H : Int) {kl kh : IntKind} (lo hi : Nat) (hl : a.eval l = .int kl L) (hh : a.eval h = .int kh H) (hL : L = lo) (hH : H = hi) (h1 : lo ≤ hi) (h2 : hi ≤ c) (h3 : lo < c) (off' n' c' : Nat) (e1 : off' = off + lo * sz) (e2 : n' = hi - lo) (e3 : c' = c - lo) :
    YieldsIf P ops S o (.slice (some ⟨b, off', none⟩) n' c') a := by
  subst hL hH e1 e2 e3
  refine .inl ⟨by simp [Region.wanted, hg], fun w _ => ?_⟩
  unfold execOp
  simp only [ho, hx, Option.map_some, hl, hh, Option.map_none]
  simp only [Sem.run_bind, run_sliceAt_slice (P := P) w T _ _ _ _ (by simp only [Program.elem, hu]), run_slice_at T e sz w hu hsz b off n c lo hi h1 h2 h3, Result.andThen_ok, Sem.run_pure]
end
end Go.Proofs.YtfbohkbpgfnceaaGreatDoor
