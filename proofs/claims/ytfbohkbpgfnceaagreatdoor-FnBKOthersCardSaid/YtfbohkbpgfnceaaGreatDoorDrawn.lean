/- The worlds of a region that draws its order: such a region may be walked as reads, and then a chain in forced order. -/
import Derived.WalkKit
import Derived.OrdersHeld
import Derived.Deep.RegionHeld
namespace Go.Proofs.YtfbohkbpgfnceaaGreatDoor
set_option linter.unusedVariables false
set_option linter.unusedSimpArgs false
open Go Go.RowKit
section
variable {P : Program} {ops : Array Oper} {Q : Exit → Act → World → Prop} {md : Region.Mode} {S : World → Prop} {k : Nat}

/-- what has come up is closed: so has all that it waited for. -/
def Down (md : Region.Mode) (ops : Array Oper) (listed : Array Bool) : Prop :=
  ∀ j o, ops[j]? = some o → listed.getD j false = true → ∀ e ∈ o.after, Region.binds md e = true → listed.getD e.on false = true

/-- number k waits for number i, at once or through others. -/
def waits (md : Region.Mode) (ops : Array Oper) : Nat → Nat → Nat → Bool
  | 0, _, _ => false
  | n + 1, k, i => match ops[k]? with
    | none => false
    | some o => o.after.any fun e => Region.binds md e && (e.on == i || waits md ops n e.on i)

theorem waits_listed {listed : Array Bool} (hd : Down md ops listed) {i : Nat} : ∀ n k, waits md ops n k i = true →
    (∀ o, ops[k]? = some o → ∀ e ∈ o.after, Region.binds md e = true → listed.getD e.on false = true) → listed.getD i false = true := by
  intro n
  induction n with
  | zero => intro k h; simp [waits] at h
  | succ n ih =>
    intro k h hp
    unfold waits at h
    cases ho : ops[k]? with
    | none => simp [ho] at h
    | some o =>
      simp only [ho] at h
      obtain ⟨e, he, hb⟩ := Array.any_eq_true'.1 h
      simp only [Bool.and_eq_true, Bool.or_eq_true, beq_iff_eq] at hb
      have hl := hp o ho e he hb.1
      rcases hb.2 with h1 | h1
      · rw [← h1]; exact hl
      · exact ih e.on h1 (fun o' ho' e' he' hb' => hd e.on o' ho' hl e' he' hb')

theorem Down.step {listed : Array Bool} (hd : Down md ops listed) {i : Nat} (hi : i ∈ Region.ready md ops listed) : Down md ops (listed.setIfInBounds i true) := by
  intro j o ho hj e he hb
  by_cases hij : i = j
  · subst hij
    obtain ⟨_, o', ho', hall⟩ := mem_ready.1 hi
    rw [ho] at ho'
    obtain rfl := Option.some.inj ho'
    exact getD_set_true (hall e he hb)
  · rw [getD_set_ne false hij] at hj
    exact getD_set_true (hd j o ho hj e he hb)

/-- Whatever order is picked; S holds behind every operation till number k has come up. -/
def wpAnyU (P : Program) (md : Region.Mode) (ops : Array Oper) (Q : Exit → Act → World → Prop) (S : World → Prop) (k : Nat) : Nat → Array Bool → Act → World → Prop
  | 0, listed, a, w => Region.ready md ops listed = [] ∧ Q .normal a w
  | fuel + 1, listed, a, w =>
    (Region.ready md ops listed = [] → Q .normal a w) ∧
    ∀ i ∈ Region.ready md ops listed, wpOp P ops Q i (fun a' w' => ((listed.setIfInBounds i true).getD k false = false → S w') ∧ wpAnyU P md ops Q S k fuel (listed.setIfInBounds i true) a' w') a w

theorem wpAny_of_U : ∀ (fuel : Nat) (listed : Array Bool) (a : Act) (w : World), wpAnyU P md ops Q S k fuel listed a w → wpAny P md ops Q fuel listed a w
  | 0, _, _, _, h => h
  | fuel + 1, _, _, _, h => ⟨h.1, fun i hi => wpOp_mono (fun a' w' h' => wpAny_of_U fuel _ a' w' h'.2) (h.2 i hi)⟩

theorem wpAnyU_first {i : Nat} {oi : Oper} {v : Value} (hi : ops[i]? = some oi) (hik : i ≠ k) (hsel : ∀ (j : Nat) (o : Oper) cs b, ops[j]? = some o → o.op ≠ .select cs b)
    (hQ : ∀ c a w, Q (.panic c) (a.put oi.dst v) w → Q (.panic c) a w) (hwait : k < ops.size → ∃ n, waits md ops n k i = true) :
    ∀ (fuel : Nat) (listed : Array Bool) (a : Act) (w : World), Down md ops listed →
      (∀ j oj, ops[j]? = some oj → j ≠ i → listed.getD j true = false → (∀ e ∈ oj.after, Region.binds md e = true → e.on ≠ i) → oi.apart ops oj = true) →
      i ∈ Region.ready md ops listed → YieldsIf P ops S oi v a → S w → (k < ops.size ∨ listed.getD k false = false) →
      wpAnyU P md ops Q S k fuel (listed.setIfInBounds i true) (a.put oi.dst v) w → wpAnyU P md ops Q S k (fuel + 1) listed a w := by
  intro fuel
  induction fuel with
  | zero =>
    intro listed a w _ _ hr hy hS _ H
    refine ⟨fun h => (by rw [h] at hr; cases hr), fun j hj => ?_⟩
    by_cases hji : j = i
    · subst hji; exact hy.wpOp hi hS ⟨fun _ => hS, H⟩
    · have := ready_mono hj hji
      rw [H.1] at this
      cases this
  | succ fuel ih =>
    intro listed a w hdown hfree hr hy hS hkk H
    refine ⟨fun h => (by rw [h] at hr; cases hr), fun j hj => ?_⟩
    by_cases hji : j = i
    · subst hji; exact hy.wpOp hi hS ⟨fun _ => hS, H⟩
    · have h1 := H.2 j (ready_mono hj hji)
      obtain ⟨hjun, oj, hoj, hall⟩ := mem_ready.1 hj
      have hun : listed.getD i false = false := by
        have h0 := (mem_ready.1 hr).1
        rcases Nat.lt_or_ge i listed.size with h' | h'
        · simp [h'] at h0 ⊢; exact h0
        · simp [Array.getElem?_eq_none h'] at h0
      have hjk : j ≠ k := by
        intro e
        subst e
        obtain ⟨n, hn⟩ := hwait (Array.getElem?_eq_some_iff.1 hoj).1
        have := waits_listed hdown n j hn (fun o ho e he hb => by rw [hoj] at ho; obtain rfl := Option.some.inj ho; exact hall e he hb)
        rw [hun] at this
        cases this
      have hkun : listed.getD k false = false := by
        rcases hkk with hlt | h
        · obtain ⟨n, hn⟩ := hwait hlt
          cases hl : listed.getD k false with
          | false => rfl
          | true =>
            have := waits_listed hdown n k hn (fun o ho e he hb => hdown k o ho hl e he hb)
            rw [hun] at this
            cases this
        · exact h
      have hkj : (listed.setIfInBounds j true).getD k false = false := by rw [getD_set_ne false hjk]; exact hkun
      have hkij : ((listed.setIfInBounds i true).setIfInBounds j true).getD k false = false := by rw [getD_set_ne false hjk, getD_set_ne false hik]; exact hkun
      have hnot : ∀ e ∈ oj.after, Region.binds md e = true → e.on ≠ i := fun e he hb heq => by
        have h1 := hall e he hb
        rw [heq, hun] at h1
        cases h1
      have h2 := wpOp_putIf hoj (hfree j oj hoj hji hjun hnot) (fun cs b => hsel i oi cs b hi) (fun cs b => hsel j oj cs b hoj) hQ hy h1
      have hfree' : ∀ k ok, ops[k]? = some ok → k ≠ i → (listed.setIfInBounds j true).getD k true = false →
          (∀ e ∈ ok.after, Region.binds md e = true → e.on ≠ i) → oi.apart ops ok = true := fun k ok hk hki hun hno => by
        refine hfree k ok hk hki ?_ hno
        by_cases hjk : j = k
        · subst hjk; exact hjun
        · rw [getD_set_ne true hjk] at hun; exact hun
      refine wpOp_mono (fun a' w' h3 => ⟨fun _ => h3.2.1 hkij, ih (listed.setIfInBounds j true) a' w' (hdown.step hj) hfree' (ready_mono hr (Ne.symm hji)) h3.1 (h3.2.1 hkij) (.inr hkj) ?_⟩) h2
      rw [Array.setIfInBounds_comm _ _ hji]
      exact h3.2.2

theorem wpAnyU_listed0 {i : Nat} {oi : Oper} {v : Value} (hi : ops[i]? = some oi) (hsel : ∀ (j : Nat) (o : Oper) cs b, ops[j]? = some o → o.op ≠ .select cs b)
    (hQ : ∀ c a w, Q (.panic c) (a.put oi.dst v) w → Q (.panic c) a w) :
    ∀ (fuel : Nat) (listed : Array Bool) (a : Act) (w : World),
      (∀ j oj, ops[j]? = some oj → j ≠ i → listed.getD j true = false → (∀ e ∈ oj.after, Region.binds md e = true → e.on ≠ i) → oi.apart ops oj = true) →
      i ∈ Region.ready md ops listed → YieldsIf P ops (fun _ => True) oi v a → listed.getD k false = true →
      wpAnyU P md ops Q S k fuel (listed.setIfInBounds i true) (a.put oi.dst v) w → wpAnyU P md ops Q S k (fuel + 1) listed a w := by
  intro fuel
  induction fuel with
  | zero =>
    intro listed a w _ hr hy hk H
    refine ⟨fun h => (by rw [h] at hr; cases hr), fun j hj => ?_⟩
    by_cases hji : j = i
    · subst hji; exact hy.wpOp hi trivial ⟨fun h => (by rw [getD_set_true hk] at h; cases h), H⟩
    · have := ready_mono hj hji
      rw [H.1] at this
      cases this
  | succ fuel ih =>
    intro listed a w hfree hr hy hk H
    refine ⟨fun h => (by rw [h] at hr; cases hr), fun j hj => ?_⟩
    by_cases hji : j = i
    · subst hji; exact hy.wpOp hi trivial ⟨fun h => (by rw [getD_set_true hk] at h; cases h), H⟩
    · have h1 := H.2 j (ready_mono hj hji)
      obtain ⟨hjun, oj, hoj, hall⟩ := mem_ready.1 hj
      have hun : listed.getD i false = false := by
        have h0 := (mem_ready.1 hr).1
        rcases Nat.lt_or_ge i listed.size with h' | h'
        · simp [h'] at h0 ⊢; exact h0
        · simp [Array.getElem?_eq_none h'] at h0
      have hnot : ∀ e ∈ oj.after, Region.binds md e = true → e.on ≠ i := fun e he hb heq => by
        have h1 := hall e he hb
        rw [heq, hun] at h1
        cases h1
      have h2 := wpOp_putIf hoj (hfree j oj hoj hji hjun hnot) (fun cs b => hsel i oi cs b hi) (fun cs b => hsel j oj cs b hoj) hQ hy h1
      have hfree' : ∀ k ok, ops[k]? = some ok → k ≠ i → (listed.setIfInBounds j true).getD k true = false →
          (∀ e ∈ ok.after, Region.binds md e = true → e.on ≠ i) → oi.apart ops ok = true := fun k ok hk hki hun hno => by
        refine hfree k ok hk hki ?_ hno
        by_cases hjk : j = k
        · subst hjk; exact hjun
        · rw [getD_set_ne true hjk] at hun; exact hun
      refine wpOp_mono (fun a' w' h3 => ⟨fun h => (by rw [getD_set_true hk] at h; cases h), ih (listed.setIfInBounds j true) a' w' hfree' (ready_mono hr (Ne.symm hji)) h3.1 (getD_set_true hk) ?_⟩) h2
      rw [Array.setIfInBounds_comm _ _ hji]
      exact h3.2.2

theorem wpAnyU_first0 {i : Nat} {oi : Oper} {v : Value} (hi : ops[i]? = some oi) (hik : i ≠ k) (hsel : ∀ (j : Nat) (o : Oper) cs b, ops[j]? = some o → o.op ≠ .select cs b)
    (hQ : ∀ c a w, Q (.panic c) (a.put oi.dst v) w → Q (.panic c) a w) :
    ∀ (fuel : Nat) (listed : Array Bool) (a : Act) (w : World),
      (∀ j oj, ops[j]? = some oj → j ≠ i → listed.getD j true = false → (∀ e ∈ oj.after, Region.binds md e = true → e.on ≠ i) → oi.apart ops oj = true) →
      i ∈ Region.ready md ops listed → YieldsIf P ops (fun _ => True) oi v a → S w →
      wpAnyU P md ops Q S k fuel (listed.setIfInBounds i true) (a.put oi.dst v) w → wpAnyU P md ops Q S k (fuel + 1) listed a w := by
  intro fuel
  induction fuel with
  | zero =>
    intro listed a w _ hr hy hS H
    refine ⟨fun h => (by rw [h] at hr; cases hr), fun j hj => ?_⟩
    by_cases hji : j = i
    · subst hji; exact hy.wpOp hi trivial ⟨fun _ => hS, H⟩
    · have := ready_mono hj hji
      rw [H.1] at this
      cases this
  | succ fuel ih =>
    intro listed a w hfree hr hy hS H
    refine ⟨fun h => (by rw [h] at hr; cases hr), fun j hj => ?_⟩
    by_cases hji : j = i
    · subst hji; exact hy.wpOp hi trivial ⟨fun _ => hS, H⟩
    · have h1 := H.2 j (ready_mono hj hji)
      obtain ⟨hjun, oj, hoj, hall⟩ := mem_ready.1 hj
      have hun : listed.getD i false = false := by
        have h0 := (mem_ready.1 hr).1
        rcases Nat.lt_or_ge i listed.size with h' | h'
        · simp [h'] at h0 ⊢; exact h0
        · simp [Array.getElem?_eq_none h'] at h0
      have hkij : ((listed.setIfInBounds i true).setIfInBounds j true).getD k false = (listed.setIfInBounds j true).getD k false := by
        rw [Array.setIfInBounds_comm _ _ (Ne.symm hji), getD_set_ne false hik]
      have hnot : ∀ e ∈ oj.after, Region.binds md e = true → e.on ≠ i := fun e he hb heq => by
        have h1 := hall e he hb
        rw [heq, hun] at h1
        cases h1
      have h2 := wpOp_putIf hoj (hfree j oj hoj hji hjun hnot) (fun cs b => hsel i oi cs b hi) (fun cs b => hsel j oj cs b hoj) hQ hy h1
      have hfree' : ∀ k ok, ops[k]? = some ok → k ≠ i → (listed.setIfInBounds j true).getD k true = false →
          (∀ e ∈ ok.after, Region.binds md e = true → e.on ≠ i) → oi.apart ops ok = true := fun k ok hk hki hun hno => by
        refine hfree k ok hk hki ?_ hno
        by_cases hjk : j = k
        · subst hjk; exact hjun
        · rw [getD_set_ne true hjk] at hun; exact hun
      refine wpOp_mono (fun a' w' h3 => ⟨fun h => h3.2.1 (hkij.trans h), ?_⟩) h2
      cases hl : (listed.setIfInBounds j true).getD k false with
      | false =>
        refine ih (listed.setIfInBounds j true) a' w' hfree' (ready_mono hr (Ne.symm hji)) h3.1 (h3.2.1 (hkij.trans hl)) ?_
        rw [Array.setIfInBounds_comm _ _ hji]
        exact h3.2.2
      | true =>
        refine wpAnyU_listed0 hi hsel hQ fuel (listed.setIfInBounds j true) a' w' hfree' (ready_mono hr (Ne.symm hji)) h3.1 hl ?_
        rw [Array.setIfInBounds_comm _ _ hji]
        exact h3.2.2

/-! ### reads first, then a chain in forced order -/
def okChain (md : Region.Mode) (ops : Array Oper) : List Nat → Array Bool → Bool
  | [], l => Region.ready md ops l == []
  | i :: r, l => Region.ready md ops l == [i] && okChain md ops r (l.setIfInBounds i true)

/-- number k waits for number i (where there is a number k) -/
def held (md : Region.Mode) (ops : Array Oper) (k i : Nat) : Bool := !decide (k < ops.size) || waits md ops ops.size k i
def okReads (md : Region.Mode) (ops : Array Oper) (k : Nat) (ch : List Nat) : List (Bool × Nat) → Array Bool → Bool
  | [], l => okChain md ops ch l
  | (b, i) :: r, l => (Region.ready md ops l).contains i && Region.free md ops l i && i != k && (!b || held md ops k i) && okReads md ops k ch r (l.setIfInBounds i true)

/-- rs: what is read first; pre: what runs behind that, S to be shown anew behind each; post: the rest, in forced order; its first one waits for all. -/
def okSplit (md : Region.Mode) (ops : Array Oper) (rs : List (Bool × Nat)) (pre post : List Nat) : Bool :=
  Region.noSelect ops && decide (rs.length + (pre ++ post).length ≤ ops.size) && okReads md ops (post.headD ops.size) (pre ++ post) rs (Array.replicate ops.size false)

def opersAt (ops : Array Oper) (l : List Nat) : List Oper := l.filterMap fun i => ops[i]?

/-- the reads, one behind the other: each yields its value in every world that meets S; one for which the chain does not wait: in whatever world -/
def readsThen (P : Program) (ops : Array Oper) (S : World → Prop) (K : Act → Prop) : List (Bool × Oper) → Act → Prop
  | [], a => K a
  | (b, o) :: rest, a => ∃ v, YieldsIf P ops (if b then S else fun _ => True) o v a ∧ readsThen P ops S K rest (a.put o.dst v)
def readsAt (ops : Array Oper) (l : List (Bool × Nat)) : List (Bool × Oper) := l.filterMap fun p => (ops[p.2]?).map fun o => (p.1, o)

def preThen (P : Program) (ops : Array Oper) (Q : Exit → Act → World → Prop) (S : World → Prop) (K : Act → World → Prop) : List Oper → Act → World → Prop
  | [], a, w => K a w
  | o :: rest, a, w => ∀ L : Act → World → Prop, (∀ a' w', S w' ∧ preThen P ops Q S K rest a' w' → L a' w') → if Region.wanted o (yielded ops a.tmps) = true then Oper.wp P o a w L Q else L (a.put o.dst undef) w

theorem ready_oper {i : Nat} {listed : Array Bool} (h : i ∈ Region.ready md ops listed) : ∃ o, ops[i]? = some o := let ⟨_, o, ho, _⟩ := mem_ready.1 h; ⟨o, ho⟩

theorem wpOp_of_cons {i : Nat} {o : Oper} {rest : List Oper} (ho : ops[i]? = some o) {K : Act → World → Prop} {a : Act} {w : World} (hn : ∀ a w, wpList P ops Q rest a w → K a w)
    (h : wpList P ops Q (o :: rest) a w) : wpOp P ops Q i K a w := by
  unfold wpOp
  simp only [ho]
  simp only [wpList] at h
  split
  · rename_i hw
    simp only [hw, if_true] at h
    exact h.imp (Oper.wp_mono hn) id
  · rename_i hw
    simp only [hw] at h
    exact hn _ _ h

theorem wpAnyU_post : ∀ (l : List Nat) (fuel : Nat) (listed : Array Bool) (a : Act) (w : World), okChain md ops l listed = true → l.length ≤ fuel → k < listed.size → (listed.getD k false = true ∨ l.head? = some k ∨ l = []) →
    wpList P ops Q (opersAt ops l) a w → wpAnyU P md ops Q S k fuel listed a w := by
  intro l
  induction l with
  | nil =>
    intro fuel listed a w hok _ _ _ h
    simp only [okChain, beq_iff_eq] at hok
    have hq : Q .normal a w := h
    cases fuel with
    | zero => exact ⟨hok, hq⟩
    | succ n => exact ⟨fun _ => hq, by rw [hok]; simp⟩
  | cons i r ih =>
    intro fuel listed a w hok hf hk hh h
    simp only [okChain, Bool.and_eq_true, beq_iff_eq] at hok
    obtain ⟨hr, hok⟩ := hok
    obtain ⟨o, ho⟩ := ready_oper (md := md) (listed := listed) (i := i) (by rw [hr]; simp)
    have hkl : (listed.setIfInBounds i true).getD k false = true := by
      rcases hh with h | h | h
      · exact getD_set_true h
      · simp at h; subst h; simp [hk]
      · cases h
    match fuel, hf with
    | fuel + 1, hf =>
      refine ⟨fun h0 => (by rw [h0] at hr; cases hr), ?_⟩
      rw [hr]
      intro j hj
      simp only [List.mem_singleton] at hj
      subst hj
      have e : opersAt ops (j :: r) = o :: opersAt ops r := by simp [opersAt, ho]
      rw [e] at h
      exact wpOp_of_cons ho (fun a' w' h' => ⟨fun h0 => (by rw [hkl] at h0; cases h0), ih fuel _ a' w' hok (by simpa using hf) (by simpa using hk) (.inl hkl) h'⟩) h

theorem wpAnyU_pre {post : List Nat} (hpost : post.head? = some k ∨ post = [] ∧ k = ops.size) : ∀ (pre : List Nat) (fuel : Nat) (listed : Array Bool) (a : Act) (w : World), okChain md ops (pre ++ post) listed = true → (pre ++ post).length ≤ fuel → listed.size = ops.size →
    preThen P ops Q S (wpList P ops Q (opersAt ops post)) (opersAt ops pre) a w → wpAnyU P md ops Q S k fuel listed a w := by
  intro pre
  induction pre with
  | nil =>
    intro fuel listed a w hok hf hsz h
    rcases hpost with hp | ⟨rfl, hp⟩
    · have hk : k < listed.size := by
        cases post with
        | nil => simp at hp
        | cons x y =>
          simp at hp
          subst hp
          simp only [List.nil_append, okChain, Bool.and_eq_true, beq_iff_eq] at hok
          obtain ⟨o, ho⟩ := ready_oper (md := md) (listed := listed) (i := x) (by rw [hok.1]; simp)
          rw [hsz]
          exact (Array.getElem?_eq_some_iff.1 ho).1
      exact wpAnyU_post post fuel listed a w hok hf hk (.inr (.inl hp)) h
    · simp only [List.append_nil, okChain, beq_iff_eq] at hok
      have hq : Q .normal a w := h
      cases fuel with
      | zero => exact ⟨hok, hq⟩
      | succ n => exact ⟨fun _ => hq, by rw [hok]; simp⟩
  | cons i r ih =>
    intro fuel listed a w hok hf hsz h
    simp only [List.cons_append, okChain, Bool.and_eq_true, beq_iff_eq] at hok
    obtain ⟨hr, hok⟩ := hok
    obtain ⟨o, ho⟩ := ready_oper (md := md) (listed := listed) (i := i) (by rw [hr]; simp)
    match fuel, hf with
    | fuel + 1, hf =>
      refine ⟨fun h0 => (by rw [h0] at hr; cases hr), ?_⟩
      rw [hr]
      intro j hj
      simp only [List.mem_singleton] at hj
      subst hj
      have e : opersAt ops (j :: r) = o :: opersAt ops r := by simp [opersAt, ho]
      rw [e] at h
      exact wpOp_step ho (fun L hL => h L (fun a' w' h' => hL a' w' ⟨fun _ => h'.1, ih fuel _ a' w' hok (by simpa using hf) (by simpa using hsz) h'.2⟩))

theorem wpAnyU_reads {pre post : List Nat} (hsel : Region.noSelect ops = true) (hQ : ∀ c a (d : Option Tmp) v w, Q (.panic c) (a.put d v) w → Q (.panic c) a w) (hpost : post.head? = some k ∨ post = [] ∧ k = ops.size) :
    ∀ (rs : List (Bool × Nat)) (fuel : Nat) (listed : Array Bool) (a : Act) (w : World), okReads md ops k (pre ++ post) rs listed = true → rs.length + (pre ++ post).length ≤ fuel → listed.size = ops.size → Down md ops listed → S w →
    readsThen P ops S (fun a' => preThen P ops Q S (wpList P ops Q (opersAt ops post)) (opersAt ops pre) a' w) (readsAt ops rs) a → wpAnyU P md ops Q S k fuel listed a w := by
  intro rs
  induction rs with
  | nil =>
    intro fuel listed a w hok hf hsz _ _ h
    exact wpAnyU_pre hpost pre fuel listed a w hok (by simpa using hf) hsz h
  | cons p r ih =>
    obtain ⟨b, i⟩ := p
    intro fuel listed a w hok hf hsz hdown hS h
    simp only [okReads, Bool.and_eq_true, bne_iff_ne, ne_eq] at hok
    obtain ⟨⟨⟨⟨hr, hfree⟩, hik⟩, hw⟩, hok⟩ := hok
    have hr' : i ∈ Region.ready md ops listed := by simpa using hr
    obtain ⟨o, ho⟩ := ready_oper hr'
    have e : readsAt ops ((b, i) :: r) = (b, o) :: readsAt ops r := by simp [readsAt, ho]
    rw [e] at h
    obtain ⟨v, hy, h⟩ := h
    match fuel, hf with
    | 0, hf => simp at hf
    | fuel + 1, hf =>
      cases b with
      | false => exact wpAnyU_first0 ho hik (Region.noSelect_spec hsel) (fun c a w h => hQ c a _ v w h) fuel listed a w (Region.free_spec ho hfree) hr' hy hS (ih fuel _ _ w hok (by simp at hf ⊢; omega) (by simpa using hsz) (hdown.step hr') hS h)
      | true =>
        refine wpAnyU_first ho hik (Region.noSelect_spec hsel) (fun c a w h => hQ c a _ v w h) (fun hlt => ⟨ops.size, by simpa [held, hlt] using hw⟩) fuel listed a w hdown (Region.free_spec ho hfree) hr' hy hS ?_ ?_
        · rcases Nat.lt_or_ge k ops.size with h | h
          · exact .inl h
          · exact .inr (by simp [Array.getElem?_eq_none (show listed.size ≤ k by omega)])
        · exact ih fuel _ _ w hok (by simp at hf ⊢; omega) (by simpa using hsz) (hdown.step hr') hS h

/-- A REGION THAT DRAWS ITS ORDER, as reads and a chain. -/
theorem wp_region_split {id : Nat} {a : Act} {w : World} (rs : List (Bool × Nat)) (pre post : List Nat) (hm : P.follows .mixedOrders = true) (hok : okSplit .any ops rs pre post = true)
    (hQ : ∀ c a (d : Option Tmp) v w, Q (.panic c) (a.put d v) w → Q (.panic c) a w) (hS : S w.drew)
    (h : readsThen P ops S (fun a' => preThen P ops Q S (wpList P ops Q (opersAt ops post)) (opersAt ops pre) a' w.drew) (readsAt ops rs) a) : (Code.region id ops true).wp P Q a w := by
  simp only [okSplit, Bool.and_eq_true, decide_eq_true_eq] at hok
  obtain ⟨⟨h1, h2⟩, h3⟩ := hok
  refine wp_region_any hm (wpAny_of_U (S := S) (k := post.headD ops.size) _ _ _ _ ?_)
  refine wpAnyU_reads h1 hQ ?_ rs ops.size _ a _ h3 h2 (by simp) ?_ hS h
  · cases post with
    | nil => exact .inr ⟨rfl, rfl⟩
    | cons x y => exact .inl rfl
  · intro j o _ hj
    simp only [Array.getD_eq_getD_getElem?, Array.getElem?_replicate] at hj
    split at hj <;> simp at hj
end
end Go.Proofs.YtfbohkbpgfnceaaGreatDoor
