/- FnXFixed: the walk of the law. -/
import Derived.Test.YtpehfhdacgjmpaaGreatAwake
namespace Go.Proofs.YtpehfhdacgjmpaaGreat
open Go Go.RowKit
theorem Texts.mono {w : World} {S n : Nat} {F G : List Nat} {vs : List Value} {ts : List (List Value)} (h : Texts w S F n vs ts) (hG : ∀ x, x ∈ G → x < w.heap.size → x ∈ F) : Texts w S G n vs ts :=
  ⟨h.len, h.lent, fun k hk => by
    obtain ⟨ax, cx, h1, h2, h3, h4⟩ := h.at_ k hk
    exact ⟨ax, cx, h1, h2, h3, fun x hx => ⟨fun hg => (h4 x hx).1 (hG x hg (h4 x hx).2), (h4 x hx).2⟩⟩⟩
/-- one more text, of a new block -/
theorem Texts.snoc {w w1 w2 : World} {S n : Nat} {al al' : Option Addr} {vs : List Value} {ts : List (List Value)} (h : Texts w S (bk al) n vs ts) (hal : ∀ x, x ∈ bk al → x < w.heap.size)
    (hu1 : Upd [] w w1) {ax : Option Addr} {cx : Nat} {t : List Value} (hx : View w1 1 ax S t) (hx1 : ∀ u ∈ t, u.oneCell' = true) (hin : In [] w.heap.size ax) (hlt : ∀ x, x ∈ bk ax → x < w1.heap.size)
    (hu2 : Upd (bk al) w1 w2) (hi2 : In (bk al) w1.heap.size al') : Texts w2 S (bk al') (n + 1) (vs ++ [.slice ax S cx]) (ts ++ [t]) := by
  have hl := h.len
  have ht := h.lent
  refine ⟨by simp [hl], by simp [ht], fun k hk => ?_⟩
  by_cases hlt' : k < n
  · obtain ⟨ay, cy, h1, h2, h3, h4⟩ := h.at_ k hlt'
    refine ⟨ay, cy, by rw [List.getElem?_append_left (by omega)]; exact h1, ?_, ?_, fun x hx' => ⟨fun hg => ?_, Nat.lt_of_lt_of_le (h4 x hx').2 (Nat.le_trans hu1.size hu2.size)⟩⟩
    · rw [List.getElem_append_left (by omega)]
      exact (h2.upd hu1 (by simp)).upd hu2 (fun x hx' => (h4 x hx').1)
    · rw [List.getElem_append_left (by omega)]
      exact h3
    · rcases hi2 x hg with h5 | h5
      · exact (h4 x hx').1 h5
      · have := (h4 x hx').2; have := hu1.size; omega
  · obtain rfl : k = n := by omega
    have hne : ∀ x, x ∈ bk ax → x ∉ bk al := fun x hx' hg => by
      rcases hin x hx' with h5 | h5
      · simp at h5
      · have := hal x hg; omega
    refine ⟨ax, cx, by rw [List.getElem?_append_right (by omega)]; simp [hl], ?_, ?_, fun x hx' => ⟨fun hg => ?_, Nat.lt_of_lt_of_le (hlt x hx') hu2.size⟩⟩
    · rw [List.getElem_append_right (by omega)]
      simp only [ht, Nat.sub_self, List.getElem_cons_zero]
      exact hx.upd hu2 hne
    · rw [List.getElem_append_right (by omega)]
      simpa [ht] using hx1
    · rcases hi2 x hg with h5 | h5
      · exact hne x hx' h5
      · have := hlt x hx'; omega
theorem Texts.nil {w : World} {S : Nat} : Texts w S [] 0 [] [] := ⟨rfl, rfl, fun k hk => by omega⟩

theorem Tryz.info29 : (Tryz.prog.info? 29).map (fun i => (i.zero, i.size, i.bytes)) = some (some (.slice none 0 0), 1, 24) := by kernel_rfl
set_option maxRecDepth 100000 in
set_option maxHeartbeats 400000 in
theorem fixed_many (ar : Option Addr) (n c : Nat) (long : Bool) (w : World) (hn : 40 < n) (hn2 : n ≤ 9223372036854775807) :
    Calls Tryz.prog 3 #[.slice ar n c, .bool long] w fun e w' => e = .returned (.bool true) ∧ Upd [] w w' := by
  go_enter Tryz.func3, Tryz.ntmps3
  have h40 : ((40 : Int) < n) := by omega
  by_cases h : 2147483647 < n
  · have h1 : ((2147483647 : Int) < n) := by omega
    go_wp2
    go_ret
    exact ⟨rfl, Upd.refl _ _⟩
  · have h1 : ¬ ((2147483647 : Int) < n) := by omega
    go_wp2
    go_ret
    exact ⟨rfl, Upd.refl _ _⟩

theorem eqB_false (rs : List R4) : (rs.map (·.a)).flatMap (leV 8) = (rs.map (fun r => lowV r.a r.b 8)).flatMap id := by
  rw [flatMap_map_id, List.flatMap_map]
  simp only [lowV8]
theorem eqB_true (rs : List R4) : (rs.map conv_ip).flatMap id = (rs.map (fun r => lowV r.a r.b 16)).flatMap id := rfl
theorem all_lowV (S : Nat) (rs : List R4) : AllBytes ((rs.map (fun r => lowV r.a r.b S)).flatMap id) := by
  rw [flatMap_map_id]
  exact AllBytes.flat (fun r => lowV_bytes _ _ _) rs

theorem STEncode_4_8 (ar : Option Addr) (n c : Nat) (vs : List Value) (ts : List (List Value)) (w : World) (hr : View w 1 ar n vs) (hT : Texts w 8 [] n vs ts) (hn : n ≤ 1000) :
    Calls Tryz.prog 11 #[.agg #[.int .i64 4, .int .i64 8], .slice ar n c] w (Made w (n * 8) (ts.flatMap id)) := STEncode_4 8 ⟨by omega, by omega⟩ ar n c vs ts w hr hT hn
set_option maxRecDepth 100000 in
set_option maxHeartbeats 1000000 in
theorem fixed_false (ar : Option Addr) (n c : Nat) (rs : List R4) (w : World) (hr : View w 4 ar n (rs.flatMap R4.cells)) (hn : n ≤ 40) :
    Calls Tryz.prog 3 #[.slice ar n c, .bool false] w fun e w' => e = .returned (.bool true) ∧ Upd [] w w' := by
  have hrl : rs.length = n := by have := hr.len; rw [flatMap_len _ 4 R4.cells_len] at this; omega
  have h40 : ¬ ((40 : Int) < n) := by omega
  have h21 : ¬ ((2147483647 : Int) < n) := by omega
  go_enter Tryz.func3, Tryz.ntmps3
  go_wp2
  obtain ⟨kk, u1, s1⟩ := alloc_facts w (Obj.cells #[.int .i64 5, .int .i64 0] 24)
  generalize w.alloc (Obj.cells #[.int .i64 5, .int .i64 0] 24) = W at *
  have hr1 := hr.upd u1 (by simp)
  go_loopw [8, 23] (fun l i wr => ∃ (k : Nat) (al : Option Addr) (cl : Nat) (vs : List Value), k ≤ n ∧ i = .int .i64 k ∧ l = .slice al k cl ∧ Row wr 29 1 al k cl vs ∧ Texts wr 8 (bk al) k vs ((rs.take k).map (fun r => lowV r.a r.b 8)) ∧ Upd [] W wr ∧ In [] W.heap.size al)
    (fun _ i _ => n - (intOf i).toNat)
  case atStart => exact ⟨0, none, 0, [], Nat.zero_le _, rfl, rfl, Row.nil, by simpa using Texts.nil, Upd.refl _ _, fun x hx => by simp at hx⟩
  case round =>
    obtain ⟨k, al, cl, vs, hk, rfl, rfl, hR, hT, hU, hI⟩ := hrel
    by_cases hlt : k < n
    · have hk0 : ((k : Int) < n) := by omega
      obtain ⟨b, o, rfl, hrr, hbb⟩ := hr1.at_ (by omega)
      obtain ⟨r, hx⟩ : ∃ r, r = rs[k]'(by omega) := ⟨_, rfl⟩
      have hcell : ∀ j, j < 4 → wr.cell? ⟨b, o + k * 4 + j, none⟩ = r.cells[j]? := fun j hj => by
        rw [hU.cell hbb (by simp), Nat.add_assoc]
        have h1 := rows_get rs k (by omega) j hj
        rw [← hx] at h1
        obtain ⟨u, hu⟩ : ∃ u, r.cells[j]? = some u := ⟨r.cells[j]'(by rw [R4.cells_len]; omega), by simp⟩
        rw [hu]
        exact hrr (k * 4 + j) u (h1.trans hu)
      have d0 := hcell 0 (by omega)
      have d1 := hcell 1 (by omega)
      have d2 := hcell 2 (by omega)
      have d3 := hcell 3 (by omega)
      have HX := Lib.hid hx
      clear hx hcell
      obtain ⟨ra, rb, rc, rd⟩ := r
      simp only [R4.cells, Nat.add_zero, List.getElem?_cons_zero, List.getElem?_cons_succ] at d0 d1 d2 d3
      go_wp2_with (first
        | (go_at_call 8; (refine (PRLow ra rb 8 (by omega) _).mono ?_); rintro e w1 ⟨ax, cx, rfl, hRx, hu1, hix⟩)
        | (at_builtin; (refine wpList_app1 _ rfl _ _ 25 rfl 29 (.slice none 0 0) 1 24 Tryz.underlying25 Tryz.info29 rfl (by decide) (hR.upd (((Upd.refl [] wr).alloc _).trans hu1 (fun _ h => .inl h)) (by simp)) rfl [.slice ax 8 cx] rfl rfl rfl (by simp [Value.oneCell']) (by decide) (by omega) ?_); intro al1 cl1 w2 hown1 hupd1 hin1))
      have uA : Upd [] wr w1 := ((Upd.refl [] wr).alloc _).trans hu1 (fun _ h => .inl h)
      have hU2 : Upd [] W w2 := (hU.trans uA (fun _ h => .inl h)).trans hupd1 (fun y hy => by
        rcases hI y hy with h | h
        · simp at h
        · exact .inr h)
      have hI2 : In [] W.heap.size al1 := hI.step hin1 (Nat.le_trans hU.size uA.size)
      have hT2 : Texts w2 8 (bk al1) (k + 1) (vs ++ [.slice ax 8 cx]) ((rs.take (k + 1)).map (fun r => lowV r.a r.b 8)) := by
        rw [List.take_succ_eq_append_getElem (by omega), ← HX.out, List.map_append]
        exact hT.snoc hR.lt uA hRx.toView (lowV_bytes _ _ _).one (hix.le (by simp)) hRx.lt hupd1 hin1
      have hown2 : Row w2 29 1 al1 (k + 1) cl1 (vs ++ [.slice ax 8 cx]) := hown1
      clear hT hown1 hupd1 hin1 hU hI hR
      go_roundw
      case rel => exact ⟨k + 1, al1, cl1, _, by omega, by go_num, by go_num, hown2, hT2, hU2, hI2⟩
      case measure => simp [intOf]; omega
    · have hk0 : n ≤ k := by omega
      obtain rfl : k = n := by omega
      rw [List.take_of_length_le (by omega)] at hT
      have hr2 := hr1.upd hU (by simp)
      have hkk := hU.at kk (by simp)
      go_wp2_with (first
        | (go_at_call 9; (with_reducible refine (NCEncode_10 _ _ _ rs _ hr2 (by omega)).mono ?_); rintro e w1 ⟨a1, c1, rfl, hR1, hu1, hi1⟩; rw [eqB_false] at hR1; have hk1 := hu1.at hkk (by simp); have q0 : w1.cell? ⟨w.heap.size, 0, none⟩ = some (.int .i64 5) := (by simp [World.cell?, hk1]); have q1 : w1.cell? ⟨w.heap.size, 1, none⟩ = some (.int .i64 0) := (by simp [World.cell?, hk1]))
        | (go_at_call 11; (with_reducible refine (STEncode_5 0 _ _ _ vs _ _ (hR.toView.upd hu1 (by simp)) ((hT.upd hu1 (by simp)).mono (by simp)) (by omega)).mono ?_); rintro e w2 ⟨a2, c2, rfl, hR2, hu2, hi2⟩)
        | (go_at_call 10; (with_reducible refine (bytesEqual a2 a1 _ _ _ _ _ _ hR2.toView (hR1.toView.upd hu2 (by simp)) (all_lowV 8 rs)).mono ?_); rintro e w2' ⟨rfl, rfl⟩)
        | (go_at_call 11; (with_reducible refine (STEncode_4_8 _ _ _ vs _ _ ((hR.toView.upd hu1 (by simp)).upd hu2 (by simp)) (((hT.upd hu1 (by simp)).upd hu2 (by simp)).mono (by simp)) (by omega)).mono ?_); rintro e w3 ⟨a3, c3, rfl, hR3, hu3, hi3⟩)
        | (go_at_call 10; (with_reducible refine (bytesEqual a3 a1 _ _ _ _ _ _ hR3.toView ((hR1.toView.upd hu2 (by simp)).upd hu3 (by simp)) (all_lowV 8 rs)).mono ?_); rintro e w3' ⟨rfl, rfl⟩)
        | (go_at_call 12; (with_reducible refine (ncAwake _).mono ?_); rintro e w4 ⟨rfl, hu4⟩))
      go_ret
      exact ⟨rfl, ((((u1.trans hU (fun _ h => .inl h)).trans hu1 (fun _ h => .inl h)).trans hu2 (fun _ h => .inl h)).trans hu3 (fun _ h => .inl h)).trans hu4 (fun _ h => .inl h)⟩
theorem STEncode_4_16 (ar : Option Addr) (n c : Nat) (vs : List Value) (ts : List (List Value)) (w : World) (hr : View w 1 ar n vs) (hT : Texts w 16 [] n vs ts) (hn : n ≤ 1000) :
    Calls Tryz.prog 11 #[.agg #[.int .i64 4, .int .i64 16], .slice ar n c] w (Made w (n * 16) (ts.flatMap id)) := STEncode_4 16 ⟨by omega, by omega⟩ ar n c vs ts w hr hT hn
set_option maxRecDepth 100000 in
set_option maxHeartbeats 1000000 in
theorem fixed_true (ar : Option Addr) (n c : Nat) (rs : List R4) (w : World) (hr : View w 4 ar n (rs.flatMap R4.cells)) (hn : n ≤ 40) :
    Calls Tryz.prog 3 #[.slice ar n c, .bool true] w fun e w' => e = .returned (.bool true) ∧ Upd [] w w' := by
  have hrl : rs.length = n := by have := hr.len; rw [flatMap_len _ 4 R4.cells_len] at this; omega
  have h40 : ¬ ((40 : Int) < n) := by omega
  have h21 : ¬ ((2147483647 : Int) < n) := by omega
  go_enter Tryz.func3, Tryz.ntmps3
  go_wp2
  obtain ⟨kk, u1, s1⟩ := alloc_facts w (Obj.cells #[.int .i64 6, .int .i64 0] 24)
  generalize w.alloc (Obj.cells #[.int .i64 6, .int .i64 0] 24) = W at *
  have hr1 := hr.upd u1 (by simp)
  go_loopw [8, 23] (fun l i wr => ∃ (k : Nat) (al : Option Addr) (cl : Nat) (vs : List Value), k ≤ n ∧ i = .int .i64 k ∧ l = .slice al k cl ∧ Row wr 29 1 al k cl vs ∧ Texts wr 16 (bk al) k vs ((rs.take k).map (fun r => lowV r.a r.b 16)) ∧ Upd [] W wr ∧ In [] W.heap.size al)
    (fun _ i _ => n - (intOf i).toNat)
  case atStart => exact ⟨0, none, 0, [], Nat.zero_le _, rfl, rfl, Row.nil, by simpa using Texts.nil, Upd.refl _ _, fun x hx => by simp at hx⟩
  case round =>
    obtain ⟨k, al, cl, vs, hk, rfl, rfl, hR, hT, hU, hI⟩ := hrel
    by_cases hlt : k < n
    · have hk0 : ((k : Int) < n) := by omega
      obtain ⟨b, o, rfl, hrr, hbb⟩ := hr1.at_ (by omega)
      obtain ⟨r, hx⟩ : ∃ r, r = rs[k]'(by omega) := ⟨_, rfl⟩
      have hcell : ∀ j, j < 4 → wr.cell? ⟨b, o + k * 4 + j, none⟩ = r.cells[j]? := fun j hj => by
        rw [hU.cell hbb (by simp), Nat.add_assoc]
        have h1 := rows_get rs k (by omega) j hj
        rw [← hx] at h1
        obtain ⟨u, hu⟩ : ∃ u, r.cells[j]? = some u := ⟨r.cells[j]'(by rw [R4.cells_len]; omega), by simp⟩
        rw [hu]
        exact hrr (k * 4 + j) u (h1.trans hu)
      have d0 := hcell 0 (by omega)
      have d1 := hcell 1 (by omega)
      have d2 := hcell 2 (by omega)
      have d3 := hcell 3 (by omega)
      have HX := Lib.hid hx
      clear hx hcell
      obtain ⟨ra, rb, rc, rd⟩ := r
      simp only [R4.cells, Nat.add_zero, List.getElem?_cons_zero, List.getElem?_cons_succ] at d0 d1 d2 d3
      go_wp2_with (first
        | (go_at_call 8; (refine (PRLow ra rb 16 (by omega) _).mono ?_); rintro e w1 ⟨ax, cx, rfl, hRx, hu1, hix⟩)
        | (at_builtin; (refine wpList_app1 _ rfl _ _ 25 rfl 29 (.slice none 0 0) 1 24 Tryz.underlying25 Tryz.info29 rfl (by decide) (hR.upd (((Upd.refl [] wr).alloc _).trans hu1 (fun _ h => .inl h)) (by simp)) rfl [.slice ax 16 cx] rfl rfl rfl (by simp [Value.oneCell']) (by decide) (by omega) ?_); intro al1 cl1 w2 hown1 hupd1 hin1))
      have uA : Upd [] wr w1 := ((Upd.refl [] wr).alloc _).trans hu1 (fun _ h => .inl h)
      have hU2 : Upd [] W w2 := (hU.trans uA (fun _ h => .inl h)).trans hupd1 (fun y hy => by
        rcases hI y hy with h | h
        · simp at h
        · exact .inr h)
      have hI2 : In [] W.heap.size al1 := hI.step hin1 (Nat.le_trans hU.size uA.size)
      have hT2 : Texts w2 16 (bk al1) (k + 1) (vs ++ [.slice ax 16 cx]) ((rs.take (k + 1)).map (fun r => lowV r.a r.b 16)) := by
        rw [List.take_succ_eq_append_getElem (by omega), ← HX.out, List.map_append]
        exact hT.snoc hR.lt uA hRx.toView (lowV_bytes _ _ _).one (hix.le (by simp)) hRx.lt hupd1 hin1
      have hown2 : Row w2 29 1 al1 (k + 1) cl1 (vs ++ [.slice ax 16 cx]) := hown1
      clear hT hown1 hupd1 hin1 hU hI hR
      go_roundw
      case rel => exact ⟨k + 1, al1, cl1, _, by omega, by go_num, by go_num, hown2, hT2, hU2, hI2⟩
      case measure => simp [intOf]; omega
    · have hk0 : n ≤ k := by omega
      obtain rfl : k = n := by omega
      rw [List.take_of_length_le (by omega)] at hT
      have hr2 := hr1.upd hU (by simp)
      have hkk := hU.at kk (by simp)
      go_wp2_with (first
        | (go_at_call 9; (with_reducible refine (NCEncode_18 _ _ _ rs _ hr2 (by omega)).mono ?_); rintro e w1 ⟨a1, c1, rfl, hR1, hu1, hi1⟩; rw [eqB_true] at hR1; have hk1 := hu1.at hkk (by simp); have q0 : w1.cell? ⟨w.heap.size, 0, none⟩ = some (.int .i64 6) := (by simp [World.cell?, hk1]); have q1 : w1.cell? ⟨w.heap.size, 1, none⟩ = some (.int .i64 0) := (by simp [World.cell?, hk1]))
        | (go_at_call 11; (with_reducible refine (STEncode_6 0 _ _ _ vs _ _ (hR.toView.upd hu1 (by simp)) ((hT.upd hu1 (by simp)).mono (by simp)) (by omega)).mono ?_); rintro e w2 ⟨a2, c2, rfl, hR2, hu2, hi2⟩)
        | (go_at_call 10; (with_reducible refine (bytesEqual a2 a1 _ _ _ _ _ _ hR2.toView (hR1.toView.upd hu2 (by simp)) (all_lowV 16 rs)).mono ?_); rintro e w2' ⟨rfl, rfl⟩)
        | (go_at_call 11; (with_reducible refine (STEncode_4_16 _ _ _ vs _ _ ((hR.toView.upd hu1 (by simp)).upd hu2 (by simp)) (((hT.upd hu1 (by simp)).upd hu2 (by simp)).mono (by simp)) (by omega)).mono ?_); rintro e w3 ⟨a3, c3, rfl, hR3, hu3, hi3⟩)
        | (go_at_call 10; (with_reducible refine (bytesEqual a3 a1 _ _ _ _ _ _ hR3.toView ((hR1.toView.upd hu2 (by simp)).upd hu3 (by simp)) (all_lowV 16 rs)).mono ?_); rintro e w3' ⟨rfl, rfl⟩)
        | (go_at_call 12; (with_reducible refine (ncAwake _).mono ?_); rintro e w4 ⟨rfl, hu4⟩))
      go_ret
      exact ⟨rfl, ((((u1.trans hU (fun _ h => .inl h)).trans hu1 (fun _ h => .inl h)).trans hu2 (fun _ h => .inl h)).trans hu3 (fun _ h => .inl h)).trans hu4 (fun _ h => .inl h)⟩
end Go.Proofs.YtpehfhdacgjmpaaGreat
