/- A region that draws its order, as reads and chain operations in any mixture, and then a chain in forced order. -/
import Derived.Test.YtfbohkbpgfnceaaGreatDoorDrawn
namespace Go.Proofs.YtfbohkbpgfnceaaGreatDoor
set_option linter.unusedVariables false
set_option linter.unusedSimpArgs false
open Go Go.RowKit
section
variable {P : Program} {ops : Array Oper} {Q : Exit → Act → World → Prop} {md : Region.Mode} {S : World → Prop} {k : Nat}
/-- (some b, i): number i is read; (none, i): number i runs alone -/
def okStps (md : Region.Mode) (ops : Array Oper) (k : Nat) (post : List Nat) : List (Option Bool × Nat) → Array Bool → Bool
  | [], l => okChain md ops post l
  | (some b, i) :: r, l => (Region.ready md ops l).contains i && Region.free md ops l i && i != k && (!b || held md ops k i) && okStps md ops k post r (l.setIfInBounds i true)
  | (none, i) :: r, l => Region.ready md ops l == [i] && okStps md ops k post r (l.setIfInBounds i true)
def stpsAt (ops : Array Oper) (l : List (Option Bool × Nat)) : List (Option Bool × Oper) := l.filterMap fun p => (ops[p.2]?).map fun o => (p.1, o)
def stpsThen (P : Program) (ops : Array Oper) (Q : Exit → Act → World → Prop) (S : World → Prop) (K : Act → World → Prop) : List (Option Bool × Oper) → Act → World → Prop
  | [], a, w => K a w
  | (some b, o) :: rest, a, w => ∃ v, YieldsIf P ops (if b then S else fun _ => True) o v a ∧ stpsThen P ops Q S K rest (a.put o.dst v) w
  | (none, o) :: rest, a, w => ∀ L : Act → World → Prop, (∀ a' w', S w' ∧ stpsThen P ops Q S K rest a' w' → L a' w') → if Region.wanted o (yielded ops a.tmps) = true then Oper.wp P o a w L Q else L (a.put o.dst undef) w
theorem wpAnyU_stps {post : List Nat} (hsel : Region.noSelect ops = true) (hQ : ∀ c a (d : Option Tmp) v w, Q (.panic c) (a.put d v) w → Q (.panic c) a w) (hpost : post.head? = some k ∨ post = [] ∧ k = ops.size) :
    ∀ (rs : List (Option Bool × Nat)) (fuel : Nat) (listed : Array Bool) (a : Act) (w : World), okStps md ops k post rs listed = true → rs.length + post.length ≤ fuel → listed.size = ops.size → Down md ops listed → S w →
    stpsThen P ops Q S (wpList P ops Q (opersAt ops post)) (stpsAt ops rs) a w → wpAnyU P md ops Q S k fuel listed a w := by
  intro rs
  induction rs with
  | nil =>
    intro fuel listed a w hok hf hsz _ _ h
    exact wpAnyU_pre hpost [] fuel listed a w (by simpa [okStps] using hok) (by simpa using hf) hsz h
  | cons p r ih =>
    obtain ⟨b, i⟩ := p
    intro fuel listed a w hok hf hsz hdown hS h
    match fuel, hf with
    | 0, hf => simp at hf
    | fuel + 1, hf =>
      cases b with
      | none =>
        simp only [okStps, Bool.and_eq_true, beq_iff_eq] at hok
        obtain ⟨hr, hok⟩ := hok
        have hr' : i ∈ Region.ready md ops listed := by rw [hr]; simp
        obtain ⟨o, ho⟩ := ready_oper hr'
        refine ⟨fun h0 => (by rw [h0] at hr; cases hr), ?_⟩
        rw [hr]
        intro j hj
        simp only [List.mem_singleton] at hj
        subst hj
        have e : stpsAt ops ((none, j) :: r) = (none, o) :: stpsAt ops r := by simp [stpsAt, ho]
        rw [e] at h
        exact wpOp_step ho (fun L hL => h L (fun a' w' h' => hL a' w' ⟨fun _ => h'.1, ih fuel _ a' w' hok (by simp at hf ⊢; omega) (by simpa using hsz) (hdown.step hr') h'.1 h'.2⟩))
      | some b =>
        simp only [okStps, Bool.and_eq_true, bne_iff_ne, ne_eq] at hok
        obtain ⟨⟨⟨⟨hr, hfree⟩, hik⟩, hw⟩, hok⟩ := hok
        have hr' : i ∈ Region.ready md ops listed := by simpa using hr
        obtain ⟨o, ho⟩ := ready_oper hr'
        have e : stpsAt ops ((some b, i) :: r) = (some b, o) :: stpsAt ops r := by simp [stpsAt, ho]
        rw [e] at h
        obtain ⟨v, hy, h⟩ := h
        cases b with
        | false => exact wpAnyU_first0 ho hik (Region.noSelect_spec hsel) (fun c a w h => hQ c a _ v w h) fuel listed a w (Region.free_spec ho hfree) hr' hy hS (ih fuel _ _ w hok (by simp at hf ⊢; omega) (by simpa using hsz) (hdown.step hr') hS h)
        | true =>
          refine wpAnyU_first ho hik (Region.noSelect_spec hsel) (fun c a w h => hQ c a _ v w h) (fun hlt => ⟨ops.size, by simpa [held, hlt] using hw⟩) fuel listed a w hdown (Region.free_spec ho hfree) hr' hy hS ?_ ?_
          · rcases Nat.lt_or_ge k ops.size with h | h
            · exact .inl h
            · exact .inr (by simp [Array.getElem?_eq_none (show listed.size ≤ k by omega)])
          · exact ih fuel _ _ w hok (by simp at hf ⊢; omega) (by simpa using hsz) (hdown.step hr') hS h
/-- A REGION THAT DRAWS ITS ORDER, as such steps. -/
theorem wp_region_stps {id : Nat} {a : Act} {w : World} (rs : List (Option Bool × Nat)) (post : List Nat) (hm : P.follows .mixedOrders = true)
    (hok : (Region.noSelect ops && decide (rs.length + post.length ≤ ops.size) && okStps .any ops (post.headD ops.size) post rs (Array.replicate ops.size false)) = true)
    (hQ : ∀ c a (d : Option Tmp) v w, Q (.panic c) (a.put d v) w → Q (.panic c) a w) (hS : S w.drew)
    (h : stpsThen P ops Q S (wpList P ops Q (opersAt ops post)) (stpsAt ops rs) a w.drew) : (Code.region id ops true).wp P Q a w := by
  simp only [Bool.and_eq_true, decide_eq_true_eq] at hok
  obtain ⟨⟨h1, h2⟩, h3⟩ := hok
  refine wp_region_any hm (wpAny_of_U (S := S) (k := post.headD ops.size) _ _ _ _ ?_)
  refine wpAnyU_stps h1 hQ ?_ rs ops.size _ a _ h3 h2 (by simp) ?_ hS h
  · cases post with
    | nil => exact .inr ⟨rfl, rfl⟩
    | cons x y => exact .inl rfl
  · intro j o _ hj
    simp only [Array.getD_eq_getD_getElem?, Array.getElem?_replicate] at hj
    split at hj <;> simp at hj
end
end Go.Proofs.YtfbohkbpgfnceaaGreatDoor
