/- NCEncode and STEncode at the kinds of FnXFixed. -/
import Derived.Test.YtpehfhdacgjmpaaGreatEnc
namespace Go.Proofs.YtpehfhdacgjmpaaGreat
open Go Go.RowKit
theorem methA_u16 (p : Nat) (w : World) : (method 706 193 (num_u16 p) "given.example/pub-clapboard/impl.add").run Tryz.prog w = .ok (321, num_u16 p) w := by kernel_rfl
theorem methA_u64 (p : Nat) (w : World) : (method 706 208 (num_u64 p) "given.example/pub-clapboard/impl.add").run Tryz.prog w = .ok (332, num_u64 p) w := by kernel_rfl
theorem methA_ip (p : Nat) (w : World) : (method 706 402 (num_ip p) "given.example/pub-clapboard/impl.add").run Tryz.prog w = .ok (562, num_ip p) w := by kernel_rfl
theorem methA_t8 (p : Nat) (w : World) : (method 706 243 (txt_8 p) "given.example/pub-clapboard/impl.add").run Tryz.prog w = .ok (381, txt_8 p) w := by kernel_rfl
theorem methA_t16 (p : Nat) (w : World) : (method 706 253 (txt_16 p) "given.example/pub-clapboard/impl.add").run Tryz.prog w = .ok (394, txt_16 p) w := by kernel_rfl
theorem methA_tF (p : Nat) (w : World) : (method 706 224 (txt_F p) "given.example/pub-clapboard/impl.add").run Tryz.prog w = .ok (345, txt_F p) w := by kernel_rfl

theorem Upd.new {w w' : World} {p : Nat} (h : Upd [p] w w') (hp : w.heap.size ≤ p) {w0 : World} (h0 : Upd [] w0 w) : Upd [] w0 w' :=
  h0.trans h (fun y hy => by simp at hy; subst hy; exact .inr (Nat.le_trans h0.size hp))
theorem conv_ip_arrs (rs : List R4) : Arrs 16 (rs.map conv_ip) := fun v hv => by
  obtain ⟨r, _, rfl⟩ := List.mem_map.1 hv
  exact ⟨lowV_len _ _ _, (lowV_bytes _ _ _).one⟩
theorem flatMap_map_id {α β : Type} (f : α → List β) (l : List α) : (l.map f).flatMap id = l.flatMap f := by
  induction l <;> simp_all
set_option maxRecDepth 100000 in
set_option maxHeartbeats 1000000 in
theorem NCEncode_8 (ar : Option Addr) (n c : Nat) (rs : List R4) (w : World) (hr : View w 4 ar n (rs.flatMap R4.cells)) (hn : n ≤ 1000) :
    Calls Tryz.prog 9 #[.int .i64 8, .slice ar n c] w (Made w (n * 2) ((rs.map (fun r => IntKind.u16.wrap r.a)).flatMap (leV 2))) := by
  go_enter Tryz.func9, Tryz.ntmps9
  have hh := hold_new w 187 128 1
  have u1 := (Upd.refl [] w).alloc (Obj.cells #[.slice none 0 0] 187)
  have hr1 := hr.upd u1 (by simp)
  have hap : 0 < n → Apart ar w.heap.size none := fun h0 x hx => ⟨by have := hr.lt h0 x hx; omega, by simp⟩
  have hm := methA_u16 w.heap.size
  go_wp2_with (first
    | (go_at_call 29; (refine (col_8 _).mono ?_); rintro e w1 ⟨rfl, rfl⟩)
    | (go_at_call 321; (refine (add_u16 _ _ _ _ rs _ _ _ _ _ hr1 hh hap hn (by omega)).mono ?_); rintro e w2 ⟨rfl, ao2, c2, hH2, hU2, hI2⟩; have hH3 := hH2; rw [Nat.zero_add, List.nil_append, show rs.map conv_u16 = (rs.map (fun r => IntKind.u16.wrap r.a)).map (Value.int .u16) by simp [conv_u16]] at hH3)
    | (go_at_call 30; (refine (enc_u16 _ _ n _ (rs.map (fun r => IntKind.u16.wrap r.a)) _ hH3 (by omega)).mono ?_); rintro e w3 ⟨ao3, c3, rfl, hR3, hU3, hI3⟩))
  go_ret
  have hUa : Upd [] w w2 := u1.trans hU2 (fun y hy => by simp at hy; exact .inr (by omega))
  exact ⟨ao3, c3, rfl, hR3, hUa.trans hU3 (fun _ h => .inl h), hI3.le hUa.size⟩
set_option maxRecDepth 100000 in
set_option maxHeartbeats 1000000 in
theorem NCEncode_10 (ar : Option Addr) (n c : Nat) (rs : List R4) (w : World) (hr : View w 4 ar n (rs.flatMap R4.cells)) (hn : n ≤ 1000) :
    Calls Tryz.prog 9 #[.int .i64 10, .slice ar n c] w (Made w (n * 8) ((rs.map (·.a)).flatMap (leV 8))) := by
  go_enter Tryz.func9, Tryz.ntmps9
  have hh := hold_new w 202 26 1
  have u1 := (Upd.refl [] w).alloc (Obj.cells #[.slice none 0 0] 202)
  have hr1 := hr.upd u1 (by simp)
  have hap : 0 < n → Apart ar w.heap.size none := fun h0 x hx => ⟨by have := hr.lt h0 x hx; omega, by simp⟩
  have hm := methA_u64 w.heap.size
  go_wp2_with (first
    | (go_at_call 29; (refine (col_10 _).mono ?_); rintro e w1 ⟨rfl, rfl⟩)
    | (go_at_call 332; (refine (add_u64 _ _ _ _ rs _ _ _ _ _ hr1 hh hap hn (by omega)).mono ?_); rintro e w2 ⟨rfl, ao2, c2, hH2, hU2, hI2⟩; have hH3 := hH2; rw [Nat.zero_add, List.nil_append, show rs.map conv_u64 = (rs.map (·.a)).map (Value.int .u64) by simp [conv_u64]] at hH3)
    | (go_at_call 30; (refine (enc_u64 _ _ n _ (rs.map (·.a)) _ hH3 (by omega)).mono ?_); rintro e w3 ⟨ao3, c3, rfl, hR3, hU3, hI3⟩))
  go_ret
  have hUa : Upd [] w w2 := u1.trans hU2 (fun y hy => by simp at hy; exact .inr (by omega))
  exact ⟨ao3, c3, rfl, hR3, hUa.trans hU3 (fun _ h => .inl h), hI3.le hUa.size⟩
set_option maxRecDepth 100000 in
set_option maxHeartbeats 1000000 in
theorem NCEncode_18 (ar : Option Addr) (n c : Nat) (rs : List R4) (w : World) (hr : View w 4 ar n (rs.flatMap R4.cells)) (hn : n ≤ 1000) :
    Calls Tryz.prog 9 #[.int .i64 18, .slice ar n c] w (Made w (n * 16) ((rs.map conv_ip).flatMap id)) := by
  go_enter Tryz.func9, Tryz.ntmps9
  have hh := hold_new w 393 394 16
  have u1 := (Upd.refl [] w).alloc (Obj.cells #[.slice none 0 0] 393)
  have hr1 := hr.upd u1 (by simp)
  have hap : 0 < n → Apart ar w.heap.size none := fun h0 x hx => ⟨by have := hr.lt h0 x hx; omega, by simp⟩
  have hm := methA_ip w.heap.size
  go_wp2_with (first
    | (go_at_call 29; (refine (colN_18 _).mono ?_); rintro e w1 ⟨rfl, rfl⟩)
    | (go_at_call 562; (refine (add_ip _ _ _ _ rs _ _ _ _ _ hr1 hh hap hn (by omega)).mono ?_); rintro e w2 ⟨rfl, ao2, c2, hH2, hU2, hI2⟩; have hH3 := hH2; rw [Nat.zero_add, List.nil_append, ← flatMap_map_id] at hH3)
    | (go_at_call 30; (refine (enc_ip _ _ n _ (rs.map conv_ip) (conv_ip_arrs rs) _ hH3 (by omega)).mono ?_); rintro e w3 ⟨ao3, c3, rfl, hR3, hU3, hI3⟩))
  go_ret
  have hUa : Upd [] w w2 := u1.trans hU2 (fun y hy => by simp at hy; exact .inr (by omega))
  exact ⟨ao3, c3, rfl, hR3, hUa.trans hU3 (fun _ h => .inl h), hI3.le hUa.size⟩

/-! ### STEncode -/
/-- a slice of texts: its cells are the texts' slices, each of S bytes, in blocks that are there -/
structure Texts (w : World) (S : Nat) (F : List Nat) (n : Nat) (vs : List Value) (ts : List (List Value)) : Prop where
  len : vs.length = n
  lent : ts.length = n
  at_ : ∀ k (h : k < n), ∃ ax cx, vs[k]? = some (.slice ax S cx) ∧ View w 1 ax S (ts[k]'(by omega)) ∧ (∀ u ∈ ts[k]'(by omega), u.oneCell' = true) ∧ (∀ x, x ∈ bk ax → x ∉ F ∧ x < w.heap.size)
theorem Texts.upd {w w' : World} {S n : Nat} {F G : List Nat} {vs : List Value} {ts : List (List Value)} (h : Texts w S F n vs ts) (hu : Upd G w w') (hG : ∀ x, x ∈ G → x < w.heap.size → x ∈ F) : Texts w' S F n vs ts := by
  refine ⟨h.len, h.lent, fun k hk => ?_⟩
  obtain ⟨ax, cx, h1, h2, h3, h4⟩ := h.at_ k hk
  exact ⟨ax, cx, h1, h2.upd hu (fun x hx hg => (h4 x hx).1 (hG x hg (h4 x hx).2)), h3, fun x hx => ⟨(h4 x hx).1, Nat.lt_of_lt_of_le (h4 x hx).2 hu.size⟩⟩

theorem hold_newT (w : World) (T e : TypeId) (tl : List Value) (size : Nat) : HoldT (w.alloc (.cells (.slice none 0 0 :: tl).toArray T)) w.heap.size T e tl size none 0 0 [] := ⟨heap_alloc_new _ _, Row.nil, by simp⟩
theorem arrs_of {w : World} {S n : Nat} {F : List Nat} {vs : List Value} {ts : List (List Value)} (h : Texts w S F n vs ts) : Arrs S ts := fun v hv => by
  obtain ⟨k, hk, rfl⟩ := List.getElem_of_mem hv
  obtain ⟨ax, cx, h1, h2, h3, h4⟩ := h.at_ k (by have := h.lent; omega)
  exact ⟨by have := h2.len; omega, h3⟩
set_option maxRecDepth 100000 in
set_option maxHeartbeats 1000000 in
theorem STEncode_5 (s : Int) (ar : Option Addr) (n c : Nat) (vs : List Value) (ts : List (List Value)) (w : World) (hr : View w 1 ar n vs) (hT : Texts w 8 [] n vs ts) (hn : n ≤ 1000) :
    Calls Tryz.prog 11 #[.agg #[.int .i64 5, .int .i64 s], .slice ar n c] w (Made w (n * 8) (ts.flatMap id)) := by
  have harr := arrs_of hT
  have htl := hT.lent
  go_enter Tryz.func11, Tryz.ntmps11
  go_wp2_with (first
    | (go_at_call 31; (refine (colT_5 s _).mono ?_); rintro e w1 ⟨rfl, rfl⟩))
  obtain ⟨k1, u1, s1⟩ := alloc_facts w (Obj.cells #[.int .i64 5, .int .i64 s] 24)
  obtain ⟨k2, u2, s2⟩ := alloc_facts (w.alloc (Obj.cells #[.int .i64 5, .int .i64 s] 24)) (Obj.cells #[.int .i64 5, .int .i64 s] 24)
  have u12 := u1.trans u2 (fun _ h => .inl h)
  have hh := hold_new ((w.alloc (Obj.cells #[.int .i64 5, .int .i64 s] 24)).alloc (Obj.cells #[.int .i64 5, .int .i64 s] 24)) 236 237 8
  have u3 := u12.alloc (Obj.cells #[.slice none 0 0] 236)
  rw [s2, s1] at hh
  generalize ((w.alloc (Obj.cells #[.int .i64 5, .int .i64 s] 24)).alloc (Obj.cells #[.int .i64 5, .int .i64 s] 24)).alloc (Obj.cells #[.slice none 0 0] 236) = W at *
  clear k1 u1 s1 k2 u2 s2 u12
  have hm := methA_t8 (w.heap.size + 1 + 1)
  go_loopw [14] (fun i wr => ∃ (k : Nat) (ao' : Option Addr) (c' : Nat), k ≤ n ∧ i = .int .i64 k ∧ Hold wr (w.heap.size + 1 + 1) 236 237 8 ao' k c' ((ts.take k).flatMap id) ∧ Upd [] w wr ∧ In [] w.heap.size ao')
    (fun i _ => n - (intOf i).toNat)
  case atStart => exact ⟨0, none, 0, Nat.zero_le _, rfl, by simpa using hh, u3, fun x hx => by simp at hx⟩
  case round =>
    obtain ⟨k, ao', c', hk, rfl, hH, hU, hI⟩ := hrel
    by_cases hlt : k < n
    · have hk0 : ((k : Int) < n) := by omega
      obtain ⟨b, o, rfl, hrr, hbb⟩ := hr.at_ (by omega)
      obtain ⟨ax, cx, hv1, hv2, hv3, hv4⟩ := hT.at_ k hlt
      have hcell : wr.cell? ⟨b, o + k, none⟩ = some (.slice ax 8 cx) := by rw [hU.cell hbb (by simp)]; exact hrr k _ hv1
      have hx := hv2.upd hU (by simp)
      go_wp2_with (first
        | (go_at_call 381; (refine (addT_8 _ _ _ _ _ _ _ _ _ hx hv3 hH (by omega)).mono ?_); rintro e w2 ⟨rfl, ao2, c2, hH2, hU2, hI2⟩))
      have hUx : Upd [] w w2 := hU.trans hU2 (fun y hy => by
        rcases List.mem_cons.1 hy with h | h
        · exact .inr (by omega)
        · rcases hI y h with h' | h'
          · simp at h'
          · exact .inr h')
      have hIx : In [] w.heap.size ao2 := hI.step hI2 hU.size
      have hHx : Hold w2 (w.heap.size + 1 + 1) 236 237 8 ao2 (k + 1) c2 ((ts.take (k + 1)).flatMap id) := by
        rw [flatMap_take_succ _ _ _ (by omega)]
        exact hH2
      clear hH2 hU2 hI2
      go_roundw
      case rel => exact ⟨k + 1, ao2, c2, by omega, by go_num, hHx, hUx, hIx⟩
      case measure => simp [intOf]; omega
    · have hk0 : n ≤ k := by omega
      obtain rfl : k = n := by omega
      rw [List.take_of_length_le (by omega)] at hH
      go_wp2_with (first
        | (go_at_call 30; (refine (enc_t8 _ _ _ _ ts harr _ hH (by omega)).mono ?_); rintro e w3 ⟨ao3, c3, rfl, hR3, hU3, hI3⟩))
      go_ret
      exact ⟨ao3, c3, rfl, hR3, hU.trans hU3 (fun _ h => .inl h), hI3.le hU.size⟩
set_option maxRecDepth 100000 in
set_option maxHeartbeats 1000000 in
theorem STEncode_6 (s : Int) (ar : Option Addr) (n c : Nat) (vs : List Value) (ts : List (List Value)) (w : World) (hr : View w 1 ar n vs) (hT : Texts w 16 [] n vs ts) (hn : n ≤ 1000) :
    Calls Tryz.prog 11 #[.agg #[.int .i64 6, .int .i64 s], .slice ar n c] w (Made w (n * 16) (ts.flatMap id)) := by
  have harr := arrs_of hT
  have htl := hT.lent
  go_enter Tryz.func11, Tryz.ntmps11
  go_wp2_with (first
    | (go_at_call 31; (refine (colT_6 s _).mono ?_); rintro e w1 ⟨rfl, rfl⟩))
  obtain ⟨k1, u1, s1⟩ := alloc_facts w (Obj.cells #[.int .i64 6, .int .i64 s] 24)
  obtain ⟨k2, u2, s2⟩ := alloc_facts (w.alloc (Obj.cells #[.int .i64 6, .int .i64 s] 24)) (Obj.cells #[.int .i64 6, .int .i64 s] 24)
  have u12 := u1.trans u2 (fun _ h => .inl h)
  have hh := hold_new ((w.alloc (Obj.cells #[.int .i64 6, .int .i64 s] 24)).alloc (Obj.cells #[.int .i64 6, .int .i64 s] 24)) 246 247 16
  have u3 := u12.alloc (Obj.cells #[.slice none 0 0] 246)
  rw [s2, s1] at hh
  generalize ((w.alloc (Obj.cells #[.int .i64 6, .int .i64 s] 24)).alloc (Obj.cells #[.int .i64 6, .int .i64 s] 24)).alloc (Obj.cells #[.slice none 0 0] 246) = W at *
  clear k1 u1 s1 k2 u2 s2 u12
  have hm := methA_t16 (w.heap.size + 1 + 1)
  go_loopw [14] (fun i wr => ∃ (k : Nat) (ao' : Option Addr) (c' : Nat), k ≤ n ∧ i = .int .i64 k ∧ Hold wr (w.heap.size + 1 + 1) 246 247 16 ao' k c' ((ts.take k).flatMap id) ∧ Upd [] w wr ∧ In [] w.heap.size ao')
    (fun i _ => n - (intOf i).toNat)
  case atStart => exact ⟨0, none, 0, Nat.zero_le _, rfl, by simpa using hh, u3, fun x hx => by simp at hx⟩
  case round =>
    obtain ⟨k, ao', c', hk, rfl, hH, hU, hI⟩ := hrel
    by_cases hlt : k < n
    · have hk0 : ((k : Int) < n) := by omega
      obtain ⟨b, o, rfl, hrr, hbb⟩ := hr.at_ (by omega)
      obtain ⟨ax, cx, hv1, hv2, hv3, hv4⟩ := hT.at_ k hlt
      have hcell : wr.cell? ⟨b, o + k, none⟩ = some (.slice ax 16 cx) := by rw [hU.cell hbb (by simp)]; exact hrr k _ hv1
      have hx := hv2.upd hU (by simp)
      go_wp2_with (first
        | (go_at_call 394; (refine (addT_16 _ _ _ _ _ _ _ _ _ hx hv3 hH (by omega)).mono ?_); rintro e w2 ⟨rfl, ao2, c2, hH2, hU2, hI2⟩))
      have hUx : Upd [] w w2 := hU.trans hU2 (fun y hy => by
        rcases List.mem_cons.1 hy with h | h
        · exact .inr (by omega)
        · rcases hI y h with h' | h'
          · simp at h'
          · exact .inr h')
      have hIx : In [] w.heap.size ao2 := hI.step hI2 hU.size
      have hHx : Hold w2 (w.heap.size + 1 + 1) 246 247 16 ao2 (k + 1) c2 ((ts.take (k + 1)).flatMap id) := by
        rw [flatMap_take_succ _ _ _ (by omega)]
        exact hH2
      clear hH2 hU2 hI2
      go_roundw
      case rel => exact ⟨k + 1, ao2, c2, by omega, by go_num, hHx, hUx, hIx⟩
      case measure => simp [intOf]; omega
    · have hk0 : n ≤ k := by omega
      obtain rfl : k = n := by omega
      rw [List.take_of_length_le (by omega)] at hH
      go_wp2_with (first
        | (go_at_call 30; (refine (enc_t16 _ _ _ _ ts harr _ hH (by omega)).mono ?_); rintro e w3 ⟨ao3, c3, rfl, hR3, hU3, hI3⟩))
      go_ret
      exact ⟨ao3, c3, rfl, hR3, hU.trans hU3 (fun _ h => .inl h), hI3.le hU.size⟩

theorem flatMap_one {S n : Nat} {ts : List (List Value)} (h : Arrs S ts) (_hn : ts.length = n) : ∀ u ∈ ts.flatMap id, u.oneCell' = true := fun u hu => by
  obtain ⟨t, ht, hut⟩ := List.mem_flatMap.1 hu
  exact (h t ht).2 u hut
set_option maxRecDepth 100000 in
set_option maxHeartbeats 1000000 in
theorem STEncode_4 (S : Nat) (hS : 0 < S ∧ S ≤ 16) (ar : Option Addr) (n c : Nat) (vs : List Value) (ts : List (List Value)) (w : World) (hr : View w 1 ar n vs) (hT : Texts w S [] n vs ts) (hn : n ≤ 1000) :
    Calls Tryz.prog 11 #[.agg #[.int .i64 4, .int .i64 S], .slice ar n c] w (Made w (n * S) (ts.flatMap id)) := by
  have harr := arrs_of hT
  have htl := hT.lent
  have hnS : ∀ k, k ≤ n → k * S ≤ 16000 := fun k hk => Nat.le_trans (Nat.mul_le_mul hk hS.2) (by omega)
  go_enter Tryz.func11, Tryz.ntmps11
  go_wp2_with (first
    | (go_at_call 31; (refine (colT_4 S _).mono ?_); rintro e w1 ⟨rfl, rfl⟩))
  obtain ⟨k1, u1, s1⟩ := alloc_facts w (Obj.cells #[.int .i64 4, .int .i64 S] 24)
  obtain ⟨k2, u2, s2⟩ := alloc_facts (w.alloc (Obj.cells #[.int .i64 4, .int .i64 S] 24)) (Obj.cells #[.int .i64 4, .int .i64 S] 24)
  have u12 := u1.trans u2 (fun _ h => .inl h)
  have hh := hold_newT ((w.alloc (Obj.cells #[.int .i64 4, .int .i64 S] 24)).alloc (Obj.cells #[.int .i64 4, .int .i64 S] 24)) 233 5 [.int .i64 S] 1
  have u3 := u12.alloc (Obj.cells #[.slice none 0 0, .int .i64 S] 233)
  rw [s2, s1] at hh
  generalize ((w.alloc (Obj.cells #[.int .i64 4, .int .i64 S] 24)).alloc (Obj.cells #[.int .i64 4, .int .i64 S] 24)).alloc (Obj.cells #[.slice none 0 0, .int .i64 S] 233) = W at *
  clear k1 u1 s1 k2 u2 s2 u12
  have hm := methA_tF (w.heap.size + 1 + 1)
  go_loopw [14] (fun i wr => ∃ (k : Nat) (ao' : Option Addr) (c' : Nat), k ≤ n ∧ i = .int .i64 k ∧ HoldT wr (w.heap.size + 1 + 1) 233 5 [.int .i64 S] 1 ao' (k * S) c' ((ts.take k).flatMap id) ∧ Upd [] w wr ∧ In [] w.heap.size ao')
    (fun i _ => n - (intOf i).toNat)
  case atStart => exact ⟨0, none, 0, Nat.zero_le _, rfl, by simpa using hh, u3, fun x hx => by simp at hx⟩
  case round =>
    obtain ⟨k, ao', c', hk, rfl, hH, hU, hI⟩ := hrel
    by_cases hlt : k < n
    · have hk0 : ((k : Int) < n) := by omega
      obtain ⟨b, o, rfl, hrr, hbb⟩ := hr.at_ (by omega)
      obtain ⟨ax, cx, hv1, hv2, hv3, hv4⟩ := hT.at_ k hlt
      have hcell : wr.cell? ⟨b, o + k, none⟩ = some (.slice ax S cx) := by rw [hU.cell hbb (by simp)]; exact hrr k _ hv1
      have hx := hv2.upd hU (by simp)
      have hkS := hnS k hk
      go_wp2_with (first
        | (go_at_call 345; (refine (addT_F _ S _ _ _ _ _ _ _ _ hx hv3 hH (by omega) (by omega)).mono ?_); rintro e w2 ⟨rfl, ao2, c2, hH2, hU2, hI2⟩))
      have hUx : Upd [] w w2 := hU.trans hU2 (fun y hy => by
        rcases List.mem_cons.1 hy with h | h
        · exact .inr (by omega)
        · rcases hI y h with h' | h'
          · simp at h'
          · exact .inr h')
      have hIx : In [] w.heap.size ao2 := hI.step hI2 hU.size
      have hHx : HoldT w2 (w.heap.size + 1 + 1) 233 5 [.int .i64 S] 1 ao2 ((k + 1) * S) c2 ((ts.take (k + 1)).flatMap id) := by
        rw [flatMap_take_succ _ _ _ (by omega), Nat.succ_mul]
        exact hH2
      clear hH2 hU2 hI2
      go_roundw
      case rel => exact ⟨k + 1, ao2, c2, by omega, by go_num, hHx, hUx, hIx⟩
      case measure => simp [intOf]; omega
    · have hk0 : n ≤ k := by omega
      obtain rfl : k = n := by omega
      rw [List.take_of_length_le (by omega)] at hH
      have hkS := hnS k hk
      go_wp2_with (first
        | (go_at_call 30; (refine (enc_tF _ S _ _ _ _ (flatMap_one harr htl) _ hH (by omega)).mono ?_); rintro e w3 ⟨ao3, c3, rfl, hR3, hU3, hI3⟩))
      go_ret
      exact ⟨ao3, c3, rfl, hR3, hU.trans hU3 (fun _ h => .inl h), hI3.le hU.size⟩
end Go.Proofs.YtpehfhdacgjmpaaGreat
