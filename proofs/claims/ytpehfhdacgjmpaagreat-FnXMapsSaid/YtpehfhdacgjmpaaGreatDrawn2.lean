/- A region that draws its order and holds two chains, which go on beside each other. -/
import Derived.Test.YtpehfhdacgjmpaaGreatDrawn
namespace Go.Proofs.YtpehfhdacgjmpaaGreat
open Go Go.RowKit
/-- values, put into their places -/
def putAll (a : Act) : List (Option Tmp × Value) → Act
  | [] => a
  | p :: r => putAll (a.put p.1 p.2) r
theorem putAll_append (a : Act) (l m : List (Option Tmp × Value)) : putAll a (l ++ m) = putAll (putAll a l) m := by
  induction l generalizing a with
  | nil => rfl
  | cons p r ih => exact ih _
theorem putAll_put (a : Act) (l : List (Option Tmp × Value)) (d : Option Tmp) (v : Value) (h : ∀ p ∈ l, ∀ t, d = some t → p.1 ≠ some t) : (putAll a l).put d v = putAll (a.put d v) l := by
  induction l generalizing a with
  | nil => rfl
  | cons p r ih =>
    show (putAll (a.put p.1 p.2) r).put d v = putAll ((a.put d v).put p.1 p.2) r
    rw [ih _ (fun q hq => h q (List.mem_cons_of_mem _ hq)), Act.put_comm a v p.2 (h p List.mem_cons_self)]
theorem zip_snoc {α β : Type} (l : List α) (m : List β) (d : α) (v : β) (h : l[m.length]? = some d) : l.zip (m ++ [v]) = l.zip m ++ [(d, v)] := by
  induction m generalizing l with
  | nil =>
    cases l with
    | nil => simp at h
    | cons x r => simp at h; subst h; simp
  | cons y m ih =>
    cases l with
    | nil => simp at h
    | cons x r =>
      simp only [List.cons_append, List.zip_cons_cons]
      rw [ih r (by simpa using h)]
/-- what the two chains have left behind -/
def actAt (dA dB : List (Option Tmp)) (a : Act) (vsA vsB : List Value) : Act := putAll a (dA.zip vsA ++ dB.zip vsB)
theorem actAt_A {dA dB : List (Option Tmp)} (a : Act) {vsA vsB : List Value} {d : Option Tmp} (v : Value) (hd : dA[vsA.length]? = some d) (hap : dA.all (fun d => !dB.contains d) = true) : (actAt dA dB a vsA vsB).put d v = actAt dA dB a (vsA ++ [v]) vsB := by
  unfold actAt
  rw [zip_snoc _ _ d v hd, putAll_append, putAll_append, putAll_append]
  refine putAll_put _ _ _ _ (fun p hp t ht h => ?_)
  have h1 := (List.of_mem_zip (a := p.1) (b := p.2) hp).1
  have h2 := List.all_eq_true.1 hap d (List.mem_iff_getElem?.2 ⟨_, hd⟩)
  rw [ht] at h2
  rw [h] at h1
  simp at h2
  exact h2 h1
theorem actAt_B {dA dB : List (Option Tmp)} (a : Act) {vsA vsB : List Value} {d : Option Tmp} (v : Value) (hd : dB[vsB.length]? = some d) : (actAt dA dB a vsA vsB).put d v = actAt dA dB a vsA (vsB ++ [v]) := by
  unfold actAt
  rw [zip_snoc _ _ d v hd, ← List.append_assoc, putAll_append _ _ [(d, v)]]
  rfl
section
variable {P : Program} {ops : Array Oper} {Q : Exit → Act → World → Prop} {md : Region.Mode} {S : World → Prop} {k : Nat}
def dsts (ops : Array Oper) (l : List Nat) : List (Option Tmp) := l.map fun i => (ops[i]?).bind (·.dst)
/-- one operation leaves v in its place, R of v and the world behind it -/
def stepTo (P : Program) (ops : Array Oper) (Q : Exit → Act → World → Prop) (S : World → Prop) (o : Oper) (a : Act) (w : World) (R : Value → World → Prop) : Prop :=
  ∀ L : Act → World → Prop, (∀ v a' w', a' = a.put o.dst v → S w' → R v w' → L a' w') → if Region.wanted o (yielded ops a.tmps) = true then Oper.wp P o a w L Q else L (a.put o.dst undef) w
def okTwo (md : Region.Mode) (ops : Array Oper) (A B post : List Nat) : Nat → Nat → Nat → Array Bool → Bool
  | 0, i, j, l => i == A.length && j == B.length && okChain md ops post l
  | n + 1, i, j, l => !(Region.ready md ops l).isEmpty && (Region.ready md ops l).all fun x =>
      (A[i]? == some x && okTwo md ops A B post n (i + 1) j (l.setIfInBounds x true)) || (B[j]? == some x && okTwo md ops A B post n i (j + 1) (l.setIfInBounds x true))
theorem dsts_get {l : List Nat} {i x : Nat} {o : Oper} (h : l[i]? = some x) (ho : ops[x]? = some o) : (dsts ops l)[i]? = some o.dst := by
  simp [dsts, h, ho]
theorem wpAnyU_two {A B post : List Nat} {A0 : Act} {dA dB : List (Option Tmp)} (hdA : dsts ops A = dA) (hdB : dsts ops B = dB) (hap : dA.all (fun d => !dB.contains d) = true) (hpost : post.head? = some k ∨ post = [] ∧ k = ops.size)
    (J : List Value → List Value → World → Prop)
    (hA : ∀ vsA vsB w x o, A[vsA.length]? = some x → ops[x]? = some o → J vsA vsB w → stepTo P ops Q S o (actAt dA dB A0 vsA vsB) w (fun v w' => J (vsA ++ [v]) vsB w'))
    (hB : ∀ vsA vsB w x o, B[vsB.length]? = some x → ops[x]? = some o → J vsA vsB w → stepTo P ops Q S o (actAt dA dB A0 vsA vsB) w (fun v w' => J vsA (vsB ++ [v]) w'))
    (hend : ∀ vsA vsB w, vsA.length = A.length → vsB.length = B.length → J vsA vsB w → wpList P ops Q (opersAt ops post) (actAt dA dB A0 vsA vsB) w) :
    ∀ (n : Nat) (vsA vsB : List Value) (fuel : Nat) (listed : Array Bool) (w : World), okTwo md ops A B post n vsA.length vsB.length listed = true → n + post.length ≤ fuel → listed.size = ops.size → J vsA vsB w →
      wpAnyU P md ops Q S k fuel listed (actAt dA dB A0 vsA vsB) w := by
  intro n
  induction n with
  | zero =>
    intro vsA vsB fuel listed w hok hf hsz hJ
    simp only [okTwo, Bool.and_eq_true, beq_iff_eq] at hok
    obtain ⟨⟨h1, h2⟩, h3⟩ := hok
    exact wpAnyU_pre (S := S) hpost [] fuel listed _ w (by simpa using h3) (by simpa using hf) hsz (hend vsA vsB w h1 h2 hJ)
  | succ n ih =>
    intro vsA vsB fuel listed w hok hf hsz hJ
    simp only [okTwo, Bool.and_eq_true, List.all_eq_true] at hok
    obtain ⟨hne, hall⟩ := hok
    match fuel, hf with
    | 0, hf => omega
    | fuel + 1, hf =>
      refine ⟨fun h0 => (by rw [h0] at hne; simp at hne), fun x hx => ?_⟩
      obtain ⟨o, ho⟩ := ready_oper hx
      have h1 := hall x hx
      simp only [Bool.or_eq_true, Bool.and_eq_true, beq_iff_eq] at h1
      rcases h1 with ⟨h2, h3⟩ | ⟨h2, h3⟩
      · refine wpOp_step ho (fun L hL => hA vsA vsB w x o h2 ho hJ L (fun v a' w' ha hs hj => hL _ _ ⟨fun _ => hs, ?_⟩))
        rw [ha, actAt_A A0 v (by rw [← hdA]; exact dsts_get h2 ho) hap]
        exact ih (vsA ++ [v]) vsB fuel _ w' (by simpa using h3) (by omega) (by simpa using hsz) hj
      · refine wpOp_step ho (fun L hL => hB vsA vsB w x o h2 ho hJ L (fun v a' w' ha hs hj => hL _ _ ⟨fun _ => hs, ?_⟩))
        rw [ha, actAt_B A0 v (by rw [← hdB]; exact dsts_get h2 ho)]
        exact ih vsA (vsB ++ [v]) fuel _ w' (by simpa using h3) (by omega) (by simpa using hsz) hj

def okReadsF (md : Region.Mode) (ops : Array Oper) (k : Nat) (fin : Array Bool → Bool) : List (Bool × Nat) → Array Bool → Bool
  | [], l => fin l
  | (b, i) :: r, l => (Region.ready md ops l).contains i && Region.free md ops l i && i != k && (!b || held md ops k i) && okReadsF md ops k fin r (l.setIfInBounds i true)
theorem wpAnyU_readsF (hsel : Region.noSelect ops = true) (hQ : ∀ c a (d : Option Tmp) v w, Q (.panic c) (a.put d v) w → Q (.panic c) a w) {fin : Array Bool → Bool} {N : Nat} {G : Act → Prop} {w : World}
    (hfin : ∀ fuel listed a, fin listed = true → N ≤ fuel → listed.size = ops.size → G a → wpAnyU P md ops Q S k fuel listed a w) :
    ∀ (rs : List (Bool × Nat)) (fuel : Nat) (listed : Array Bool) (a : Act), okReadsF md ops k fin rs listed = true → rs.length + N ≤ fuel → listed.size = ops.size → Down md ops listed → S w →
    readsThen P ops S G (readsAt ops rs) a → wpAnyU P md ops Q S k fuel listed a w := by
  intro rs
  induction rs with
  | nil =>
    intro fuel listed a hok hf hsz _ _ h
    exact hfin fuel listed a hok (by simpa using hf) hsz h
  | cons p r ih =>
    obtain ⟨b, i⟩ := p
    intro fuel listed a hok hf hsz hdown hS h
    simp only [okReadsF, Bool.and_eq_true, bne_iff_ne, ne_eq] at hok
    obtain ⟨⟨⟨⟨hr, hfree⟩, hik⟩, hw⟩, hok⟩ := hok
    have hr' : i ∈ Region.ready md ops listed := by simpa using hr
    obtain ⟨o, ho⟩ := ready_oper hr'
    have e : readsAt ops ((b, i) :: r) = (b, o) :: readsAt ops r := by simp [readsAt, ho]
    rw [e] at h
    obtain ⟨v, hy, h⟩ := h
    match fuel, hf with
    | 0, hf => simp at hf
    | fuel + 1, hf =>
      cases b with
      | false => exact wpAnyU_first0 ho hik (Region.noSelect_spec hsel) (fun c a w h => hQ c a _ v w h) fuel listed a w (Region.free_spec ho hfree) hr' hy hS (ih fuel _ _ hok (by simp at hf ⊢; omega) (by simpa using hsz) (hdown.step hr') hS h)
      | true =>
        refine wpAnyU_first ho hik (Region.noSelect_spec hsel) (fun c a w h => hQ c a _ v w h) (fun hlt => ⟨ops.size, by simpa [held, hlt] using hw⟩) fuel listed a w hdown (Region.free_spec ho hfree) hr' hy hS ?_ ?_
        · rcases Nat.lt_or_ge k ops.size with h | h
          · exact .inl h
          · exact .inr (by simp [Array.getElem?_eq_none (show listed.size ≤ k by omega)])
        · exact ih fuel _ _ hok (by simp at hf ⊢; omega) (by simpa using hsz) (hdown.step hr') hS h

/-- two chains from here on, J held between them -/
def TwoFrom (P : Program) (ops : Array Oper) (Q : Exit → Act → World → Prop) (S : World → Prop) (A B post : List Nat) (dA dB : List (Option Tmp)) (A0 : Act) (w0 : World) : Prop :=
  ∃ J : List Value → List Value → World → Prop, J [] [] w0 ∧
    (∀ vsA vsB w x o, A[vsA.length]? = some x → ops[x]? = some o → J vsA vsB w → stepTo P ops Q S o (actAt dA dB A0 vsA vsB) w (fun v w' => J (vsA ++ [v]) vsB w')) ∧
    (∀ vsA vsB w x o, B[vsB.length]? = some x → ops[x]? = some o → J vsA vsB w → stepTo P ops Q S o (actAt dA dB A0 vsA vsB) w (fun v w' => J vsA (vsB ++ [v]) w')) ∧
    ∀ vsA vsB w, vsA.length = A.length → vsB.length = B.length → J vsA vsB w → wpList P ops Q (opersAt ops post) (actAt dA dB A0 vsA vsB) w
def okTwoAll (md : Region.Mode) (ops : Array Oper) (rs : List (Bool × Nat)) (A B post : List Nat) : Bool :=
  Region.noSelect ops && decide (rs.length + (A.length + B.length + post.length) ≤ ops.size) && okReadsF md ops (post.headD ops.size) (okTwo md ops A B post (A.length + B.length) 0 0) rs (Array.replicate ops.size false)
theorem wp_region_two {id : Nat} {a : Act} {w : World} (rs : List (Bool × Nat)) (A B post : List Nat) (dA dB : List (Option Tmp)) (hm : P.follows .mixedOrders = true) (hdA : dsts ops A = dA) (hdB : dsts ops B = dB) (hap : dA.all (fun d => !dB.contains d) = true) (hok : okTwoAll .any ops rs A B post = true)
    (hQ : ∀ c a (d : Option Tmp) v w, Q (.panic c) (a.put d v) w → Q (.panic c) a w) (hS : S w.drew)
    (h : readsThen P ops S (fun A0 => TwoFrom P ops Q S A B post dA dB A0 w.drew) (readsAt ops rs) a) : (Code.region id ops true).wp P Q a w := by
  simp only [okTwoAll, Bool.and_eq_true, decide_eq_true_eq] at hok
  obtain ⟨⟨h1, h2⟩, h3⟩ := hok
  refine wp_region_any hm (wpAny_of_U (S := S) (k := post.headD ops.size) _ _ _ _ ?_)
  have hpost : post.head? = some (post.headD ops.size) ∨ post = [] ∧ post.headD ops.size = ops.size := by
    cases post with
    | nil => exact .inr ⟨rfl, rfl⟩
    | cons x y => exact .inl rfl
  refine wpAnyU_readsF h1 hQ (N := A.length + B.length + post.length) (fun fuel listed a' hok hf hsz hG => ?_) rs ops.size _ a h3 h2 (by simp) ?_ hS h
  · obtain ⟨J, j0, jA, jB, jE⟩ := hG
    have h9 := wpAnyU_two (A0 := a') (md := .any) hdA hdB hap hpost J jA jB jE (A.length + B.length) [] [] fuel listed _ hok hf hsz j0
    have e : actAt dA dB a' [] [] = a' := by simp [actAt, putAll]
    rw [e] at h9
    exact h9
  · intro j o _ hj
    simp only [Array.getD_eq_getD_getElem?, Array.getElem?_replicate] at hj
    split at hj <;> simp at hj
end
end Go.Proofs.YtpehfhdacgjmpaaGreat
