/- FnXNulls: it answers true. -/
import Derived.Test.YtpehfhdacgjmpaaGreatNullWalk
namespace Go.Proofs.YtpehfhdacgjmpaaGreat
open Go Go.RowKit
set_option maxRecDepth 100000 in
set_option maxHeartbeats 8000000 in
theorem nulls (ar : Option Addr) (n c : Nat) (ms : List (Bool × ByteArray)) (w : World) (hr : View w 2 ar n (ms.flatMap cells_N)) :
    Calls Tryz.prog 5 #[.slice ar n c] w fun e w' => e = .returned (.bool true) ∧ Upd [] w w' := by
  have hml : ms.length = n := by have := hr.len; rw [flatMap_len _ 2 cells_N_len] at this; omega
  go_enter Tryz.func5, Tryz.ntmps5
  by_cases h40 : 40 < n
  · have h40' : ((40 : Int) < n) := by omega
    go_wp2_with (go_at_call 19; (refine (zzFits5 ar n c ms _ hr).mono ?_); rintro e w1 ⟨⟨b1, rfl⟩, hu1⟩; cases b1)
    · go_ret
      exact ⟨rfl, hu1⟩
    · go_ret
      exact ⟨rfl, hu1⟩
  have h40' : ¬ ((40 : Int) < n) := by omega
  go_wp2_with (first
    | (go_at_call 19; (refine (zzFits5 ar n c ms _ hr).mono ?_); rintro e w1 ⟨⟨b1, rfl⟩, hu1⟩; have hr1 := hr.upd hu1 (by simp); cases b1)
    | (go_at_call 20; (refine (ContainsN ar n c ms _ hr1 (by omega)).mono ?_); rintro e w2 ⟨⟨b2, rfl, hb2⟩, hu2⟩; have HB := Lib.hid hb2; clear hb2; cases b2))
  · go_ret
    exact ⟨rfl, hu1⟩
  rotate_left
  · go_ret
    exact ⟨rfl, hu1.trans hu2 (by simp)⟩
  have hall : ∀ s ∈ ms, s.2.size ≤ 60 := by have := HB.out; simpa using this
  have hr2 := hr1.upd hu2 (by simp)
  have hu12 := hu1.trans hu2 (by simp)
  have HAL := Lib.hid hall
  clear h40' hall
  go_loopw [3, 4, 24] (fun a e i wr => ∃ (k : Nat) (al : Option Addr) (cl : Nat) (vs' : List Value) (ae : Option Addr) (ce : Nat), k ≤ n ∧ i = .int .i64 k ∧ a = .slice ae k ce ∧ e = .slice al k cl ∧ FlatSt w2 wr al k cl vs' ((ms.take k).map text0) ae k ce ((ms.take k).map mask_of))
    (fun _ _ i _ => n - (intOf i).toNat)
  case atStart => exact ⟨0, none, 0, [], none, 0, Nat.zero_le _, rfl, rfl, rfl, ⟨Row.nil, TextsV.nil, Row.nil, by simp, In.nil, In.nil, Upd.refl _ _⟩⟩
  case round =>
    obtain ⟨k, al, cl, vs', ae, ce, hk, rfl, rfl, rfl, hF⟩ := hrel
    by_cases hlt : k < n
    · have hk0 : ((k : Int) < n) := by omega
      obtain ⟨b, o, rfl, hrr, hbb⟩ := hr2.at_ (by omega)
      obtain ⟨m, hm⟩ : ∃ m, m = ms[k]'(by omega) := ⟨_, rfl⟩
      obtain ⟨d0, d1⟩ := two_N hrr hbb hF.upd (by simp) k hlt hml hm
      have e1 : (ms.take (k + 1)).map text0 = (ms.take k).map text0 ++ [text0 m] := by rw [List.take_succ_eq_append_getElem (by omega), ← hm]; simp
      have e2 : (ms.take (k + 1)).map mask_of = (ms.take k).map mask_of ++ [mask_of m] := by rw [List.take_succ_eq_append_getElem (by omega), ← hm]; simp
      obtain ⟨T1, hT1⟩ : ∃ T1, T1 = (ms.take (k + 1)).map text0 := ⟨_, rfl⟩
      obtain ⟨T, hT⟩ : ∃ T, T = (ms.take k).map text0 := ⟨_, rfl⟩
      obtain ⟨E1, hE1⟩ : ∃ E1, E1 = (ms.take (k + 1)).map mask_of := ⟨_, rfl⟩
      obtain ⟨E, hE⟩ : ∃ E, E = (ms.take k).map mask_of := ⟨_, rfl⟩
      rw [← hT1, ← hT] at e1
      rw [← hE1, ← hE] at e2
      rw [← hT, ← hE] at hF
      have H1 := Lib.hid e1
      have H2 := Lib.hid e2
      have H3 := Lib.hid hT1
      have H4 := Lib.hid hE1
      clear hm e1 e2 hT1 hT hE1 hE
      obtain ⟨mb, mt⟩ := m
      simp only at d0 d1
      obtain ⟨k6, u6, s6⟩ := alloc_facts wr (Obj.cells #[.bool mb, .string mt] 48)
      have hFW := hF.keep u6
      have c0 : (wr.alloc (Obj.cells #[.bool mb, .string mt] 48)).cell? ⟨wr.heap.size, 0, none⟩ = some (.bool mb) := by simp only [World.cell?, k6]; rfl
      have c1 : (wr.alloc (Obj.cells #[.bool mb, .string mt] 48)).cell? ⟨wr.heap.size, 1, none⟩ = some (.string mt) := by simp only [World.cell?, k6]; rfl
      have hltE := hF.ends.lt
      have hn6 : wr.heap.size ∉ bk ae := fun h => by have := hltE _ h; omega
      clear k6
      cases mb with
      | false =>
        go_wp2_with (first
          | (at_builtin; refine wpList_app1 _ rfl (.tmp 40) (.tmp 42) 22 rfl 28 _ 4 32 Tryz.underlying22 Tryz.info28 rfl (by decide) hFW.ends rfl [.int .u64 1, .int .u64 0, .int .u64 0, .int .u64 0] rfl rfl (by simp [Act.eval]) (by simp [Value.oneCell']) (by decide) (by omega) ?_; intro ae1 ce1 w3 hown1 hupd1 hin1; have hall3 := hFW.all.upd hupd1 hFW.sep)
          | (at_builtin; refine wpList_app1 _ rfl (.tmp 44) (.tmp 45) 25 rfl 29 (.slice none 0 0) 1 24 Tryz.underlying25 Tryz.info29 rfl (by decide) hall3 rfl [.slice none 0 0] rfl rfl rfl (by simp [Value.oneCell']) (by decide) (by omega) ?_; intro al1 cl1 w4 hown2 hupd2 hin2))
        have hnext := hFW.next (r := ⟨1, 0, 0, 0⟩) (t := []) (ax := none) (cx := 0) hupd1 (by simpa [R4.cells] using hown1) hin1 View.nil AllBytes.nil (by simp) hown2 hupd2 hin2
        have hfin : FlatSt w2 w4 al1 (k + 1) cl1 (vs' ++ [.slice none 0 0]) T1 ae1 (k + 1) ce1 E1 := by rw [H1.out, H2.out]; exact hnext
        clear hnext hown1 hupd1 hin1 hown2 hupd2 hin2 hall3 hFW hF c0 c1 u6 s6
        go_roundw
        case rel => exact ⟨k + 1, al1, cl1, _, ae1, ce1, by omega, by go_num, rfl, rfl, by rw [← H3.out, ← H4.out]; exact hfin⟩
        case measure => simp [intOf]; omega
      | true =>
        go_wp2
        generalize wr.alloc (Obj.cells #[.bool true, .string mt] 48) = W at *
        have hlE : ∀ x, x ∈ bk ae → x < W.heap.size := hFW.ends.lt
        refine wp_region_two (S := Upd (bk ae) W) [(true, 0), (true, 1), (true, 4), (true, 5), (true, 6)] [2, 3] [7, 8] [9, 10, 11] [some 32, some 33] [some 37, some 38] (by kernel_rfl) (by rfl) (by rfl) (by decide) (by kernel_rfl) (fun _ _ d _ _ h => by cases d <;> exact h) ((Upd.refl _ _).drew) ?_
        simp only [readsAt, Option.map_some, List.filterMap_cons, List.filterMap_nil, List.getElem?_toArray, List.getElem?_cons_succ, List.getElem?_cons_zero]
        refine ⟨_, Or.inl ⟨by rfl, fun w' hS => by first | (go_simp; done) | (go_simp; with_reducible rfl)⟩, ?_⟩
        simp only [Act.put, List.setIfInBounds_toArray, List.set_cons_zero, List.set_cons_succ]
        refine ⟨_, Or.inl ⟨by rfl, fun w' hS => by first | (go_simp; done) | (go_simp; with_reducible rfl)⟩, ?_⟩
        simp only [Act.put, List.setIfInBounds_toArray, List.set_cons_zero, List.set_cons_succ]
        refine ⟨_, Or.inl ⟨by rfl, fun w' hS => by first | (go_simp; done) | (go_simp; with_reducible rfl)⟩, ?_⟩
        simp only [Act.put, List.setIfInBounds_toArray, List.set_cons_zero, List.set_cons_succ]
        refine ⟨_, Or.inl ⟨by rfl, fun w' hS => by first | (go_simp; done) | (go_simp; with_reducible rfl)⟩, ?_⟩
        simp only [Act.put, List.setIfInBounds_toArray, List.set_cons_zero, List.set_cons_succ]
        refine ⟨_, Or.inl ⟨by rfl, fun w' hS => by have e0 := Upd.cell1 hS c1 hn6; first | (go_simp; done) | (go_simp; with_reducible rfl)⟩, ?_⟩
        simp only [Act.put, List.setIfInBounds_toArray, List.set_cons_zero, List.set_cons_succ]
        simp only [readsThen]
        refine ⟨fun vsA vsB wx => Upd (bk ae) W wx ∧ RowIn W ae k ce E ⟨0, 0, 0, 0⟩ vsA wx ∧ TextIn W mt vsB wx ∧ RowText vsA vsB, ⟨(Upd.refl _ _).drew, World.ownsRow.drew hFW.ends, trivial, trivial⟩, ?_, ?_, ?_⟩
        · intro vsA vsB wx x o hx ho hJ L hL
          obtain ⟨hUx, hRI, hTI, hRT⟩ := hJ
          rcases vsA with _ | ⟨v1, _ | ⟨v2, _ | ⟨v3, r3⟩⟩⟩
          · obtain rfl : 2 = x := by simpa using hx
            simp only [List.getElem?_toArray, List.getElem?_cons_succ, List.getElem?_cons_zero, Option.some.injEq] at ho
            subst ho
            have hnw := (Upd.refl [] wx).alloc (Obj.cells (⟨0, 0, 0, 0⟩ : R4).cells.toArray 28)
            rcases vsB with _ | ⟨u1, _ | ⟨u2, _ | ⟨u3, r4⟩⟩⟩
            all_goals (try exact hTI.elim)
            all_goals (refine step_build wx rfl 22 28 (.tmp 31) rfl (v := .agg #[.int .u64 0, .int .u64 0, .int .u64 0, .int .u64 0]) (by rfl) (⟨0, 0, 0, 0⟩ : R4).cells.toArray Tryz.underlying22 Tryz.info28 (by decide) (by decide) (by kernel_rfl) ?_)
            all_goals (refine hL _ _ _ rfl (hUx.trans hnw (by simp)) ⟨hUx.trans hnw (by simp), ⟨World.ownsRow.alloc hRI _, _, rfl, heap_alloc_new _ _, hUx.size⟩, hTI.upd hnw (by simp), trivial⟩)
          · obtain rfl : 3 = x := by simpa using hx
            simp only [List.getElem?_toArray, List.getElem?_cons_succ, List.getElem?_cons_zero, Option.some.injEq] at ho
            subst ho
            obtain ⟨hRow, xb, rfl, hxb, hxB⟩ := hRI
            have hsrc : Src Tryz.prog 4 22 (.slice (some ⟨xb, 0, none⟩) 1 1) 1 (⟨0, 0, 0, 0⟩ : R4).cells wx := Src.ofRange Tryz.underlying22 rfl (rangeAt_blk hxb) (by simp [R4.cells, Value.oneCell'])
            rcases vsB with _ | ⟨u1, _ | ⟨u2, _ | ⟨u3, r4⟩⟩⟩
            all_goals (try exact hTI.elim)
            all_goals (refine step_app wx rfl (.tmp 30) (.tmp 32) 22 22 rfl 28 _ 4 32 Tryz.underlying22 Tryz.info28 rfl (by decide) hRow (by rfl) hsrc (by rfl) (by decide) (by omega) ?_)
            all_goals (intro ae1 ce1 w' hown hupd hin; refine hL _ _ _ rfl (hUx.trans hupd (fun _ h => .inl h)) ⟨hUx.trans hupd (fun _ h => .inl h), ⟨ae1, ce1, rfl, hown, hin.le hUx.size⟩, hTI.upd hupd hlE, ?_⟩)
            · trivial
            · obtain ⟨g, cs, rfl, _, hg1, hg2⟩ := hTI
              exact fun hgx => (hin g hgx).elim (fun h => by have := hlE g h; omega) (fun h => by omega)
            · obtain ⟨⟨g, cs, rfl, _, hg1, hg2⟩, _⟩ := hTI
              exact fun hgx => (hin g hgx).elim (fun h => by have := hlE g h; omega) (fun h => by omega)
          · simp at hx
          · exact hRI.elim
        · intro vsA vsB wx x o hx ho hJ L hL
          obtain ⟨hUx, hRI, hTI, hRT⟩ := hJ
          rcases vsB with _ | ⟨u1, _ | ⟨u2, _ | ⟨u3, r4⟩⟩⟩
          · obtain rfl : 7 = x := by simpa using hx
            simp only [List.getElem?_toArray, List.getElem?_cons_succ, List.getElem?_cons_zero, Option.some.injEq] at ho
            subst ho
            rcases vsA with _ | ⟨v1, _ | ⟨v2, _ | ⟨v3, r3⟩⟩⟩
            all_goals (try exact hRI.elim)
            all_goals (refine step_bytes wx rfl 9 29 5 (.tmp 36) rfl Tryz.underlying9 Tryz.underlying29 Tryz.underlying5 mt (by rfl) ?_)
            all_goals (intro cs w' hvw hu hsz; refine hL _ _ _ rfl (hUx.trans hu (by simp)) ⟨hUx.trans hu (by simp), hRI.keep hu, ⟨_, cs, rfl, hvw, hUx.size, hsz⟩, ?_⟩)
            · trivial
            · trivial
            · obtain ⟨ae1, ce1, rfl, hown, _⟩ := hRI
              exact fun hgx => Nat.lt_irrefl _ (hown.lt _ hgx)
          · obtain rfl : 8 = x := by simpa using hx
            simp only [List.getElem?_toArray, List.getElem?_cons_succ, List.getElem?_cons_zero, Option.some.injEq] at ho
            subst ho
            obtain ⟨g, cs, rfl, hvw, hg1, hg2⟩ := hTI
            have hTI' : NewText W mt (.slice (some ⟨g, 0, none⟩) mt.size cs) wx := ⟨g, cs, rfl, hvw, hg1, hg2⟩
            have hnw := (Upd.refl [] wx).alloc (Obj.cells #[.slice (some ⟨g, 0, none⟩) mt.size cs] 29)
            rcases vsA with _ | ⟨v1, _ | ⟨v2, _ | ⟨v3, r3⟩⟩⟩
            all_goals (try exact hRI.elim)
            all_goals (refine step_build wx rfl 25 29 (.tmp 37) rfl (v := .slice (some ⟨g, 0, none⟩) mt.size cs) (by rfl) #[.slice (some ⟨g, 0, none⟩) mt.size cs] Tryz.underlying25 Tryz.info29 (by decide) (by decide) (by kernel_rfl) ?_)
            all_goals (refine hL _ _ _ rfl (hUx.trans hnw (by simp)) ⟨hUx.trans hnw (by simp), hRI.keep hnw, ⟨hTI'.upd hnw (by simp), _, rfl, heap_alloc_new _ _, hUx.size⟩, ?_⟩)
            · trivial
            · trivial
            · obtain ⟨ae1, ce1, rfl, hown, _⟩ := hRI
              exact hRT
          · simp at hx
          · exact hTI.elim
        · intro vsA vsB wx hlA hlB hJ
          obtain ⟨hUx, hRI, hTI, hRT⟩ := hJ
          rcases vsA with _ | ⟨v1, _ | ⟨v2, _ | ⟨v3, r3⟩⟩⟩
          all_goals (try (simp at hlA; done))
          rcases vsB with _ | ⟨u1, _ | ⟨u2, _ | ⟨u3, r4⟩⟩⟩
          all_goals (try (simp at hlB; done))
          obtain ⟨ae1, ce1, rfl, hRow, hin1⟩ := hRI
          obtain ⟨⟨g, cs, rfl, hvw, hg1, hg2⟩, y, rfl, hy, hyW⟩ := hTI
          have hall3 := hFW.all.upd hUx hFW.sep
          have hsrc : Src Tryz.prog 1 25 (.slice (some ⟨y, 0, none⟩) 1 1) 1 [.slice (some ⟨g, 0, none⟩) mt.size cs] wx := Src.ofRange Tryz.underlying25 rfl (rangeAt_blk hy) (by simp [Value.oneCell'])
          simp only [opersAt, List.filterMap_cons, List.filterMap_nil, List.getElem?_toArray, List.getElem?_cons_succ, List.getElem?_cons_zero, actAt, putAll, List.zip_cons_cons, List.zip_nil_right, List.nil_append, List.cons_append, Act.put, List.setIfInBounds_toArray, List.set_cons_zero, List.set_cons_succ]
          change wpList _ _ _ [_, _, _] _ _
          go_wp2_with (at_builtin; refine wpList_app _ rfl (.tmp 34) (.tmp 38) 25 25 rfl 29 (.slice none 0 0) 1 24 Tryz.underlying25 Tryz.info29 rfl (by decide) hall3 rfl hsrc rfl (by decide) (by omega) ?_; intro al1 cl1 w4 hown2 hupd2 hin2)
          have hRT' : g ∉ bk ae1 := hRT
          have hnext := hFW.next (r := ⟨0, 0, 0, 0⟩) (t := byteCells mt) (ax := some ⟨g, 0, none⟩) (cx := cs) hUx hRow hin1 (by rw [byteCells_len]; exact hvw) (byteCells_all mt) (fun x hx => by simp at hx; subst hx; exact ⟨hg1, hg2, hRT'⟩) (by rw [byteCells_len]; exact hown2) hupd2 hin2
          rw [byteCells_len] at hnext
          have hfin : FlatSt w2 w4 al1 (k + 1) cl1 (vs' ++ [.slice (some ⟨g, 0, none⟩) mt.size cs]) T1 ae1 (k + 1) ce1 E1 := by rw [H1.out, H2.out]; exact hnext
          clear hnext hown2 hupd2 hin2 hall3 hFW hF c0 c1 u6 s6 hsrc hRow hvw hy hUx
          go_roundw
          case rel => exact ⟨k + 1, al1, cl1, _, ae1, ce1, by omega, by go_num, rfl, rfl, by rw [← H3.out, ← H4.out]; exact hfin⟩
          case measure => simp [intOf]; omega
    · have hk0 : n ≤ k := by omega
      obtain rfl : k = n := by omega
      rw [List.take_of_length_le (by omega)] at hF
      have hA := fun (ao : Option Addr) (c : Nat) (w : World) (h) => ARNull ao k c (ms.map own_of) w h (by omega) (own_size ms HAL.out)
      rw [own_texts, own_nulls] at hA
      have hTl : ∀ t ∈ ms.map text0, t.length < 128 ∧ AllBytes t := fun t ht => by
        obtain ⟨m, hm, rfl⟩ := List.mem_map.1 ht
        exact ⟨by have := text0_len m (HAL.out m hm); omega, text0_bytes m⟩
      have hshort : Short (ms.map text0) := fun t ht => ⟨(hTl t ht).1, (hTl t ht).2.one⟩
      have hbytes : AllBytes (encS (ms.map text0)) := encS_bytes _ hTl
      have hNb : (encS (ms.map text0)).length ≤ 40 * 61 := by
        have h1 := encS_len (ms.map text0)
        have h2 : ∀ (l : List (Bool × ByteArray)), (∀ m ∈ l, m.2.size ≤ 60) → tot (l.map text0) ≤ l.length * 60 := by
          intro l
          induction l with
          | nil => intro _; simp [tot]
          | cons m l ih =>
            intro hl
            have h3 := ih (fun m hm => hl m (by simp [hm]))
            have h4 := text0_len m (hl m (by simp))
            have h5 : tot ((m :: l).map text0) = (text0 m).length + tot (l.map text0) := by simp [tot]
            rw [h5, List.length_cons, Nat.succ_mul]; omega
        have h6 := h2 ms HAL.out
        have h7 := Nat.mul_le_mul_right 60 (show ms.length ≤ 40 by omega)
        rw [List.length_map] at h1
        omega
      have hcb : AllBytes ((ms.map mask_of).map conv_u8) := fun u hu => by
        obtain ⟨r, hr, rfl⟩ := List.mem_map.1 hu
        obtain ⟨m, _, rfl⟩ := List.mem_map.1 hr
        obtain ⟨b, s⟩ := m
        cases b
        · exact ⟨1, rfl, by omega, by omega⟩
        · exact ⟨0, rfl, by omega, by omega⟩
      obtain ⟨TX, hTX⟩ : ∃ TX, TX = ms.map text0 := ⟨_, rfl⟩
      obtain ⟨MK, hMK⟩ : ∃ MK, MK = ms.map mask_of := ⟨_, rfl⟩
      obtain ⟨OW, hOW⟩ : ∃ OW, OW = ms.map own_of := ⟨_, rfl⟩
      have hOWl : ∀ j, (hj : j < k) → ∃ m, ms[j]'(by omega) = m ∧ (ms.take (j + 1)).map own_of = (ms.take j).map own_of ++ [own_of m] ∧ TX[j]? = some (text0 m) := fun j hj => ⟨_, rfl, by simp only [List.take_succ_eq_append_getElem (show j < ms.length by omega), List.map_append, List.map_cons, List.map_nil], by rw [hTX, List.getElem?_map, List.getElem?_eq_getElem (by omega)]; rfl⟩
      rw [← hTX, ← hMK] at hF hA
      rw [← hOW] at hA
      rw [← hTX] at hshort hbytes hNb
      rw [← hMK] at hcb
      obtain ⟨N, hN⟩ : ∃ N, N = (encS TX).length := ⟨_, rfl⟩
      rw [← hN] at hA hNb
      have HN := Lib.hid hN
      have HOW := Lib.hid hOW
      have HOL := Lib.hid hOWl
      clear hTX hMK hOW hN hTl hOWl
      go_wp2
      obtain ⟨w0, rfl⟩ : ∃ w0, w0 = wr := ⟨_, rfl⟩
      go_loopw [7, 50] (fun s i wi => ∃ (j : Nat) (ao : Option Addr) (co : Nat), j ≤ k ∧ i = .int .i64 j ∧ s = .slice ao j co ∧ Row wi 48 2 ao j co (((ms.take j).map own_of).flatMap cells_N) ∧ Upd [] w0 wi ∧ In [] w0.heap.size ao)
        (fun _ i _ => k - (intOf i).toNat)
      case atStart => exact ⟨0, none, 0, Nat.zero_le _, rfl, rfl, Row.nil, Upd.refl _ _, In.nil⟩
      case round =>
        obtain ⟨j, ao, co, hj, rfl, rfl, hRo, hUi, hIo⟩ := hrel
        by_cases hjl : j < k
        · have hj0 : ((j : Int) < k) := by omega
          obtain ⟨b, o, rfl, hrr, hbb⟩ := hr2.at_ (by omega)
          obtain ⟨m, hm, e1, e2⟩ := HOL.out j hjl
          obtain ⟨d0, d1⟩ := two_N hrr hbb (hF.upd.trans hUi (by simp)) (by simp) j hjl hml hm.symm
          obtain ⟨bl, ol, ral, hrl, hbl⟩ := hF.all.toView.at_ (by omega)
          have htlen := hF.txt.lent
          obtain ⟨ax, cx, hv1, hv2, hv3, hv4⟩ := hF.txt.at_ j hjl
          obtain ⟨t, ht⟩ : ∃ t, t = TX[j]'(by omega) := ⟨_, rfl⟩
          have e3 : text0 m = t := by rw [List.getElem?_eq_getElem (by omega)] at e2; rw [ht]; exact (Option.some.inj e2).symm
          rw [← ht] at hv1 hv2 hv3
          have c2 : wr.cell? ⟨bl, ol + j, none⟩ = some (.slice ax t.length cx) := (hUi.cell hbl (by simp)).trans (hrl j _ hv1)
          have hvx := hv2.upd hUi (by simp)
          have E1 := Lib.hid e1
          have E3 := Lib.hid e3
          clear hm e1 e2 e3 ht
          obtain ⟨mb, mt⟩ := m
          simp only at d0 d1
          obtain ⟨k9, u9, s9⟩ := alloc_facts wr (Obj.cells #[.bool mb, .string mt] 48)
          have c3 : (wr.alloc (Obj.cells #[.bool mb, .string mt] 48)).cell? ⟨wr.heap.size, 0, none⟩ = some (.bool mb) := by simp only [World.cell?, k9]; rfl
          have c4 := u9.cell1 c2 (by simp)
          have hvx9 := hvx.upd u9 (by simp)
          have hRo9 := hRo.upd u9 (by simp)
          clear k9 s9
          subst ral
          go_wp2
          generalize wr.alloc (Obj.cells #[.bool mb, .string mt] 48) = W at *
          refine wp_region_split (S := Upd [] W) [(false, 0), (true, 1), (true, 2), (true, 3), (true, 4), (true, 5), (true, 6), (true, 7), (true, 8)] [] [9, 10, 11] (by kernel_rfl) (by kernel_rfl) (fun _ _ d _ _ h => by cases d <;> exact h) ((Upd.refl _ _).drew) ?_
          simp only [readsAt, opersAt, Option.map_some, List.filterMap_cons, List.filterMap_nil, List.getElem?_toArray, List.getElem?_cons_succ, List.getElem?_cons_zero]
          refine ⟨_, Or.inl ⟨by rfl, fun w' hS => by first | (go_simp; done) | (go_simp; with_reducible rfl)⟩, ?_⟩
          simp only [Act.put, List.setIfInBounds_toArray, List.set_cons_zero, List.set_cons_succ]
          refine ⟨_, Or.inl ⟨by rfl, fun w' hS => by first | (go_simp; done) | (go_simp; with_reducible rfl)⟩, ?_⟩
          simp only [Act.put, List.setIfInBounds_toArray, List.set_cons_zero, List.set_cons_succ]
          refine ⟨_, Or.inl ⟨by rfl, fun w' hS => by have e0 := Upd.cell1 hS c3 (by simp); have e1 := Upd.cell1 hS c4 (by simp); first | (go_simp; done) | (go_simp; with_reducible rfl)⟩, ?_⟩
          simp only [Act.put, List.setIfInBounds_toArray, List.set_cons_zero, List.set_cons_succ]
          refine ⟨_, Or.inl ⟨by rfl, fun w' hS => by first | (go_simp; done) | (go_simp; with_reducible rfl)⟩, ?_⟩
          simp only [Act.put, List.setIfInBounds_toArray, List.set_cons_zero, List.set_cons_succ]
          refine ⟨_, Or.inl ⟨by rfl, fun w' hS => by first | (go_simp; done) | (go_simp; with_reducible rfl)⟩, ?_⟩
          simp only [Act.put, List.setIfInBounds_toArray, List.set_cons_zero, List.set_cons_succ]
          refine ⟨_, Or.inl ⟨by rfl, fun w' hS => by first | (go_simp; done) | (go_simp; with_reducible rfl)⟩, ?_⟩
          simp only [Act.put, List.setIfInBounds_toArray, List.set_cons_zero, List.set_cons_succ]
          refine ⟨_, Or.inl ⟨by rfl, fun w' hS => by have e0 := Upd.cell1 hS c3 (by simp); have e1 := Upd.cell1 hS c4 (by simp); first | (go_simp; done) | (go_simp; with_reducible rfl)⟩, ?_⟩
          simp only [Act.put, List.setIfInBounds_toArray, List.set_cons_zero, List.set_cons_succ]
          refine ⟨_, yields_text rfl (.tmp 61) rfl (by rfl) hv3 (fun w hS => hvx9.upd hS (by simp)), ?_⟩
          simp only [Act.put, List.setIfInBounds_toArray, List.set_cons_zero, List.set_cons_succ]
          refine ⟨_, Or.inl ⟨by rfl, fun w' hS => by first | (go_simp; done) | (go_simp; with_reducible rfl)⟩, ?_⟩
          simp only [Act.put, List.setIfInBounds_toArray, List.set_cons_zero, List.set_cons_succ]
          simp only [readsThen, preThen]
          change wpList _ _ _ [_, _, _] _ _
          have hRod : Row W.drew 48 2 ao j co (((ms.take j).map own_of).flatMap cells_N) := World.ownsRow.drew hRo9
          go_wp2_with (at_builtin; refine wpList_app1d _ rfl (.tmp 55) (.tmp 64) 44 rfl 48 _ 2 24 Tryz.underlying44 Tryz.info48 rfl (by decide) hRo9 rfl [.bool mb, .string (strOf t)] rfl rfl rfl (by simp [Value.oneCell']) (by decide) (by omega) ?_; intro ao1 co1 w4 hown1 hupd1 hin1)
          have hUx : Upd [] w0 w4 := (hUi.trans u9 (by simp)).trans hupd1 (fun y hy => (hIo y hy).elim (fun h => by simp at h) .inr)
          have hIx : In [] w0.heap.size ao1 := hIo.step hin1 (Nat.le_trans hUi.size u9.size)
          have hRx : Row w4 48 2 ao1 (j + 1) co1 (((ms.take (j + 1)).map own_of).flatMap cells_N) := by
            rw [E1.out, List.flatMap_append]
            have := hown1
            rw [← E3.out] at this
            simpa [own_of, cells_N] using this
          clear hown1 hupd1 hin1 hRo hRo9 hRod hUi hIo hvx hvx9 c2 c3 c4 u9
          go_roundw
          case rel => exact ⟨j + 1, ao1, co1, by omega, by go_num, rfl, hRx, hUx, hIx⟩
          case measure => simp [intOf]; omega
        · have hj0 : k ≤ j := by omega
          obtain rfl : j = k := by omega
          rw [List.take_of_length_le (by omega), ← HOW.out] at hRo
          have hF9 := hF.keep hUi
          clear hF hr2
          have hone : ∀ u ∈ MK.map conv_u8, u.oneCell' = true := hcb.one
          go_wp2_with (first
            | (go_at_call 22; (refine (hA ao co _ hRo.toView).mono ?_); rintro e w4 ⟨⟨ab, cb, rfl, hRb⟩, hu4⟩)
            | (go_at_call 9; (refine (NCEncode_7 ae j ce MK _ (hF9.ends.toView.upd hu4 (by simp)) (by omega)).mono ?_); rintro e w5 ⟨a5, c5, rfl, hR5, hu5, hi5⟩)
            | (go_at_call 17; (refine (Clone a5 j c5 _ _ hR5.toView hone (by omega) (fun ha => hR5.head_or.elim (fun h => ⟨h.2.1, h.2.2.1⟩) (fun ⟨g, hg⟩ => by rw [ha] at hg; cases hg))).mono ?_); rintro e w6 ⟨a6, c6, rfl, hR6, hu6, hi6⟩)
            | (go_at_call 18; have hu46 := (hu4.trans hu5 (by simp)).trans hu6 (by simp); (refine (wxText al j cl vs' TX _ (hF9.all.toView.upd hu46 (by simp)) ((hF9.txt.upd hu46 (by simp)).mono (by simp)) hshort (by omega)).mono ?_); rintro e w7 ⟨a7, c7, rfl, hR7, hu7, hi7⟩; rw [← HN.out] at hR7 ⊢)
            | (at_builtin; (refine wpList_appG _ (by rfl) (.tmp 77) (.tmp 79) 29 29 rfl 5 (.int .u8 0) 1 1 Tryz.underlying29 Tryz.info5 rfl (by decide) (hR6.upd hu7 (by simp)) rfl (hR7.toView.src hbytes.one) rfl (by decide) (by omega) ?_); intro a8 c8 w8 hR8 hu8 hi8; have hu8' : Upd [] w4 w8 := (((hu5.trans hu6 (by simp)).trans hu7 (by simp)).trans hu8 (fun y hy => (hi6 y hy).elim (fun h => by simp at h) (fun h => .inr (Nat.le_trans hu5.size h)))))
            | (go_at_call 10; (refine (bytesEqual ab a8 _ _ _ _ _ _ (hRb.toView.upd hu8' (by simp)) hR8.toView (AllBytes.append hcb hbytes)).mono ?_); rintro e w9 ⟨rfl, rfl⟩)
            | (go_at_call 12; (refine (ncAwake _).mono ?_); rintro e w10 ⟨rfl, hu10⟩))
          go_ret
          exact ⟨rfl, (((hu12.trans hF9.upd (by simp)).trans hu4 (by simp)).trans hu8' (by simp)).trans hu10 (by simp)⟩
end Go.Proofs.YtpehfhdacgjmpaaGreat
