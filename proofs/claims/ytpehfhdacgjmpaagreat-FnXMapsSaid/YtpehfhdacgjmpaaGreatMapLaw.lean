/- FnXMaps: it answers true. -/
import Derived.Test.YtpehfhdacgjmpaaGreatMapWalk
namespace Go.Proofs.YtpehfhdacgjmpaaGreat
open Go Go.RowKit
set_option maxRecDepth 100000 in
set_option maxHeartbeats 8000000 in
theorem maps_law (ar : Option Addr) (n c : Nat) (vs : List Value) (pss : List (List Pr)) (w : World) (hr : View w 1 ar n vs) (hP : PairsV w n vs pss) :
    Calls Tryz.prog 7 #[.slice ar n c] w fun e w' => e = .returned (.bool true) ∧ Upd [] w w' := by
  have hlent := hP.lent
  have hmf : ∀ (fn : Fn) (first cap : Array Value) (w : World), (Instr.makeFunc fn first cap).run Tryz.prog w = .ok (.func fn first cap) w := fun _ _ _ _ => rfl
  go_enter Tryz.func7, Tryz.ntmps7
  by_cases h12 : 12 < n
  · have h12' : ((12 : Int) < n) := by omega
    go_wp2_with (go_at_call 25; (refine (zzFits8 ar n c vs pss _ hr hP).mono ?_); rintro e w1 ⟨⟨b1, rfl, hb1⟩, hu1⟩; clear hb1; cases b1)
    · go_ret
      exact ⟨rfl, hu1⟩
    · go_ret
      exact ⟨rfl, hu1⟩
  have h12' : ¬ ((12 : Int) < n) := by omega
  go_wp2_with (go_at_call 25; (refine (zzFits8 ar n c vs pss _ hr hP).mono ?_); rintro e w1 ⟨⟨b1, rfl, hb1⟩, hu1⟩; have HB := Lib.hid hb1; clear hb1; cases b1)
  · go_ret
    exact ⟨rfl, hu1⟩
  have hfit : ∀ r ∈ pss, ∀ p ∈ r, Fit p := by have := HB.out; simpa using this
  have HFIT := Lib.hid hfit
  have hr1 := hr.upd hu1 (by simp)
  have hP1 := hP.upd hu1
  clear hfit h12'
  go_loopw [3, 4, 5, 20] (fun a b e i wr => ∃ (k : Nat) (al av ae : Option Addr) (cl cv ce : Nat) (vk vv : List Value), k ≤ n ∧ i = .int .i64 k ∧ a = .slice al ((pss.take k).flatten.length) cl ∧ b = .slice av ((pss.take k).flatten.length) cv ∧ e = .slice ae k ce ∧ (∀ r ∈ pss.take k, r.length ≤ 8 ∧ PairsOk r) ∧
      MapSt w1 wr al av ae ((pss.take k).flatten.length) k cl cv ce vk vv (keys_of (pss.take k).flatten) (vals_of (pss.take k).flatten) ((endsP pss k).map endR))
    (fun _ _ _ i _ => n - (intOf i).toNat)
  case atStart => exact ⟨0, none, none, none, 0, 0, 0, [], [], Nat.zero_le _, rfl, rfl, rfl, rfl, by simp, ⟨Row.nil, Row.nil, Row.nil, TextsV.nil, TextsV.nil, by simp, In.nil, In.nil, In.nil, Upd.refl _ _⟩⟩
  case round =>
    obtain ⟨k, al, av, ae, cl, cv, ce, vk, vv, hk, rfl, rfl, rfl, rfl, hseen, hM⟩ := hrel
    have hfewk : FewP (pss.take k) := ⟨by rw [List.length_take]; omega, hseen⟩
    have hAb := hfewk.len (pss.take k).length
    rw [List.take_length] at hAb
    by_cases hlt : k < n
    · have hk0 : ((k : Int) < n) := by omega
      obtain ⟨b, o, rfl, hrr, hbb⟩ := hr1.at_ (by omega)
      obtain ⟨ax, cx, hv1, hv0, hv2⟩ := hP1.at_ k hlt
      obtain ⟨ps, hps⟩ : ∃ ps, ps = pss[k]'(by omega) := ⟨_, rfl⟩
      rw [← hps] at hv1 hv0 hv2
      have hcell : wr.cell? ⟨b, o + k, none⟩ = some (.slice ax ps.length cx) := (hM.upd.cell hbb (by simp)).trans (hrr k _ hv1)
      have e1 : (pss.take (k + 1)).flatten = (pss.take k).flatten ++ ps := by rw [List.take_succ_eq_append_getElem (by omega), List.flatten_append, ← hps]; simp
      have e2 := endsP_succ pss k
      rw [e1, List.length_append] at e2
      have e3 : keys_of (pss.take (k + 1)).flatten = keys_of (pss.take k).flatten ++ keys_of ps := by rw [e1]; simp [keys_of]
      have e4 : vals_of (pss.take (k + 1)).flatten = vals_of (pss.take k).flatten ++ vals_of ps := by rw [e1]; simp [vals_of]
      have e5 : (pss.take (k + 1)).flatten.length = (pss.take k).flatten.length + ps.length := by rw [e1, List.length_append]
      have hstep : (ps.length ≤ 8 ∧ PairsOk ps) → ∀ r ∈ pss.take (k + 1), r.length ≤ 8 ∧ PairsOk r := fun h0 r hr' => by
        rw [List.take_succ_eq_append_getElem (by omega)] at hr'
        rcases List.mem_append.1 hr' with h | h
        · exact hseen r h
        · simp at h; subst h; rw [← hps]; exact h0
      have hfitp : ∀ p ∈ ps, Fit p := HFIT.out ps (by rw [hps]; exact List.getElem_mem _)
      obtain ⟨A, hA⟩ : ∃ A, A = (pss.take k).flatten.length := ⟨_, rfl⟩
      obtain ⟨K, hK⟩ : ∃ K, K = keys_of (pss.take k).flatten := ⟨_, rfl⟩
      obtain ⟨V, hV⟩ : ∃ V, V = vals_of (pss.take k).flatten := ⟨_, rfl⟩
      obtain ⟨E, hE⟩ : ∃ E, E = (endsP pss k).map endR := ⟨_, rfl⟩
      have e6 : (endsP pss (k + 1)).map endR = E ++ [endR ((A + ps.length : Nat) : Int)] := by rw [e2, List.map_append, ← hE, ← hA]; rfl
      rw [← hA, ← hK, ← hV, ← hE] at hM
      rw [← hA] at hAb e5 ⊢
      rw [← hK] at e3
      rw [← hV] at e4
      have H3 := Lib.hid e3
      have H4 := Lib.hid e4
      have H5 := Lib.hid e5
      have H6 := Lib.hid e6
      have HS := Lib.hid hstep
      have HFP := Lib.hid hfitp
      clear hps e1 e2 e3 e4 e5 e6 hstep hfitp hA hK hV hE hseen hfewk
      by_cases h8 : 8 < ps.length
      · have h8' : ((8 : Int) < ps.length) := by omega
        go_wp2
        go_ret
        exact ⟨rfl, hu1.trans hM.upd (by simp)⟩
      have h8' : ¬ ((8 : Int) < ps.length) := by omega
      obtain ⟨l, hl⟩ : ∃ l, l = ps.length := ⟨_, rfl⟩
      rw [← hl] at hcell hv0 hv2 h8 h8'
      have HL := Lib.hid hl
      clear hl
      go_wp2
      clear h8' hcell
      go_loopw [3, 4, 29] (fun a b i wr => ∃ (j : Nat) (al' av' : Option Addr) (cl' cv' : Nat) (vk' vv' : List Value), j ≤ l ∧ i = .int .i64 j ∧ a = .slice al' (A + j) cl' ∧ b = .slice av' (A + j) cv' ∧ PairsOk (ps.take j) ∧
          MapSt w1 wr al' av' ae (A + j) k cl' cv' ce vk' vv' (K ++ keys_of (ps.take j)) (V ++ vals_of (ps.take j)) E)
        (fun _ _ i _ => l - (intOf i).toNat)
      case atStart => exact ⟨0, al, av, cl, cv, vk, vv, Nat.zero_le _, rfl, rfl, rfl, fun p hp => by simp at hp, by simpa [keys_of, vals_of] using hM⟩
      case round =>
        obtain ⟨j, al', av', cl', cv', vk', vv', hj, rfl, rfl, rfl, hok, hI⟩ := hrel
        have hl := HL.out
        by_cases hjl : j < l
        · have hj0 : ((j : Int) < l) := by omega
          obtain ⟨bx, ox, rfl, hrx, hbx⟩ := hv2.at_ (by omega)
          obtain ⟨m, hm⟩ : ∃ m, m = ps[j]'(by omega) := ⟨_, rfl⟩
          obtain ⟨d0, d1⟩ := two_M hrx hbx hI.upd (by simp) j hjl hl.symm hm
          have hfm : Fit m := HFP.out m (by rw [hm]; exact List.getElem_mem _)
          have e3 : K ++ keys_of (ps.take (j + 1)) = K ++ keys_of (ps.take j) ++ [byteCells m.1] := by rw [List.take_succ_eq_append_getElem (by omega), ← hm]; simp [keys_of]
          have e4 : V ++ vals_of (ps.take (j + 1)) = V ++ vals_of (ps.take j) ++ [byteCells m.2] := by rw [List.take_succ_eq_append_getElem (by omega), ← hm]; simp [vals_of]
          have hokm : m.1.size + m.2.size ≤ 100 → PairsOk (ps.take (j + 1)) := fun h0 p hp => by
            rw [List.take_succ_eq_append_getElem (by omega)] at hp
            rcases List.mem_append.1 hp with h | h
            · exact hok p h
            · simp at h; subst h; rw [← hm]; exact ⟨by omega, by omega⟩
          obtain ⟨K1, hK1⟩ : ∃ K1, K1 = K ++ keys_of (ps.take (j + 1)) := ⟨_, rfl⟩
          obtain ⟨V1, hV1⟩ : ∃ V1, V1 = V ++ vals_of (ps.take (j + 1)) := ⟨_, rfl⟩
          obtain ⟨K0, hK0⟩ : ∃ K0, K0 = K ++ keys_of (ps.take j) := ⟨_, rfl⟩
          obtain ⟨V0, hV0⟩ : ∃ V0, V0 = V ++ vals_of (ps.take j) := ⟨_, rfl⟩
          rw [← hK1, ← hK0] at e3
          rw [← hV1, ← hV0] at e4
          rw [← hK0, ← hV0] at hI
          have HE3 := Lib.hid e3
          have HE4 := Lib.hid e4
          have HK1 := Lib.hid hK1
          have HV1 := Lib.hid hV1
          have HOK := Lib.hid hokm
          have hvj := (hv2.head j (by omega)).upd hI.upd (by simp)
          clear hm e3 e4 hK1 hV1 hK0 hV0 hokm hok hl
          obtain ⟨mk, mv⟩ := m
          simp only at d0 d1
          have hf1 : mk.size ≤ 2147483647 := hfm.1
          have hf2 : mv.size ≤ 2147483647 := hfm.2
          clear hfm
          obtain ⟨k9, u9, s9⟩ := alloc_facts wr (Obj.cells #[.string mk, .string mv] 60)
          have hI9 := hI.keep u9
          have hvj9 := hvj.upd u9 (by simp)
          have hlA := hI.K.lt
          have hn9 : wr.heap.size ∉ bk al' := fun h => by have := hlA _ h; omega
          have hws : IntKind.i64.wrap ((mk.size : Int) + mv.size) = (mk.size : Int) + mv.size := IntWalk.i64_in _ (by omega)
          by_cases hsum : 100 < mk.size + mv.size
          · have hsum' : ((100 : Int) < (mk.size : Int) + mv.size) := by omega
            go_wp2
            go_ret
            exact ⟨rfl, hu1.trans hI9.upd (by simp)⟩
          have hsum' : ¬ ((100 : Int) < (mk.size : Int) + mv.size) := by omega
          have hok1 := HOK.out (by show mk.size + mv.size ≤ 100; omega)
          have HOK1 := Lib.hid hok1
          clear hok1
          have hjc : (j : Int) ≤ cx := by omega
          go_wp2_with (go_at_call 26; apply stopHere)
          show Calls _ _ _ _ _
          generalize wr.alloc (Obj.cells #[.string mk, .string mv] 60) = W9 at *
          refine (ContainsM (some ⟨bx, ox, none⟩) j cx (ps.take j) wr.heap.size mk mv W9 hvj9 (by omega) k9).mono ?_
          rintro e W ⟨⟨b5, rfl⟩, hu5⟩
          dsimp only
          have hM5 := hI9.keep hu5
          have k5 := hu5.at k9 (by simp)
          have c0 : W.cell? ⟨wr.heap.size, 0, none⟩ = some (.string mk) := by simp only [World.cell?, k5]; rfl
          have c1 : W.cell? ⟨wr.heap.size, 1, none⟩ = some (.string mv) := by simp only [World.cell?, k5]; rfl
          clear hI hI9 hvj hvj9 k9 k5 d0 d1 hws hsum' hjc s9 u9 hu5
          cases b5 with
          | true =>
            go_wp2
            go_ret
            exact ⟨rfl, hu1.trans hM5.upd (by simp)⟩
          | false =>
            go_wp2
            have hlE : ∀ x, x ∈ bk al' → x < W.heap.size := hM5.K.lt
            refine wp_region_two (S := Upd (bk al') W) [(true, 0), (true, 1), (true, 2), (true, 6), (true, 7), (true, 8)] [3, 4, 5] [9, 10] [11, 12, 13] [some 52, some 53, some 54] [some 58, some 59] (by kernel_rfl) (by rfl) (by rfl) (by decide) (by kernel_rfl) (fun _ _ d _ _ h => by cases d <;> exact h) ((Upd.refl _ _).drew) ?_
            simp only [readsAt, Option.map_some, List.filterMap_cons, List.filterMap_nil, List.getElem?_toArray, List.getElem?_cons_succ, List.getElem?_cons_zero]
            refine ⟨_, Or.inl ⟨by rfl, fun w' hS => by first | (go_simp; done) | (go_simp; with_reducible rfl)⟩, ?_⟩
            simp only [Act.put, List.setIfInBounds_toArray, List.set_cons_zero, List.set_cons_succ]
            refine ⟨_, Or.inl ⟨by rfl, fun w' hS => by first | (go_simp; done) | (go_simp; with_reducible rfl)⟩, ?_⟩
            simp only [Act.put, List.setIfInBounds_toArray, List.set_cons_zero, List.set_cons_succ]
            refine ⟨_, Or.inl ⟨by rfl, fun w' hS => by have e0 := Upd.cell1 hS c0 hn9; have e1 := Upd.cell1 hS c1 hn9; first | (go_simp; done) | (go_simp; with_reducible rfl)⟩, ?_⟩
            simp only [Act.put, List.setIfInBounds_toArray, List.set_cons_zero, List.set_cons_succ]
            refine ⟨_, Or.inl ⟨by rfl, fun w' hS => by first | (go_simp; done) | (go_simp; with_reducible rfl)⟩, ?_⟩
            simp only [Act.put, List.setIfInBounds_toArray, List.set_cons_zero, List.set_cons_succ]
            refine ⟨_, Or.inl ⟨by rfl, fun w' hS => by first | (go_simp; done) | (go_simp; with_reducible rfl)⟩, ?_⟩
            simp only [Act.put, List.setIfInBounds_toArray, List.set_cons_zero, List.set_cons_succ]
            refine ⟨_, Or.inl ⟨by rfl, fun w' hS => by have e0 := Upd.cell1 hS c0 hn9; have e1 := Upd.cell1 hS c1 hn9; first | (go_simp; done) | (go_simp; with_reducible rfl)⟩, ?_⟩
            simp only [Act.put, List.setIfInBounds_toArray, List.set_cons_zero, List.set_cons_succ]
            simp only [readsThen]
            refine ⟨fun vsA vsB wx => Upd (bk al') W wx ∧ KeyIn W al' (A + j) cl' vk' mk vsA wx ∧ TextIn W mv vsB wx ∧ KeyText vsA vsB, ⟨(Upd.refl _ _).drew, World.ownsRow.drew hM5.K, trivial, trivial⟩, ?_, ?_, ?_⟩
            · intro vsA vsB wx x o hx ho hJ L hL
              obtain ⟨hUx, hRI, hTI, hRT⟩ := hJ
              rcases vsA with _ | ⟨v1, _ | ⟨v2, _ | ⟨v3, _ | ⟨v4, r4⟩⟩⟩⟩
              · obtain rfl : 3 = x := by simpa using hx
                simp only [List.getElem?_toArray, List.getElem?_cons_succ, List.getElem?_cons_zero, Option.some.injEq] at ho
                subst ho
                rcases vsB with _ | ⟨u1, _ | ⟨u2, _ | ⟨u3, r5⟩⟩⟩
                all_goals (try exact hTI.elim)
                all_goals (refine step_bytes wx rfl 9 29 5 (.tmp 51) rfl Tryz.underlying9 Tryz.underlying29 Tryz.underlying5 mk (by rfl) ?_)
                all_goals (intro cs w' hvw hu hsz; refine hL _ _ _ rfl (hUx.trans hu (by simp)) ⟨hUx.trans hu (by simp), ⟨Row.upd hRI hu (by simp), _, cs, rfl, hvw, hUx.size, hsz⟩, hTI.upd hu (by simp), trivial⟩)
              · obtain rfl : 4 = x := by simpa using hx
                simp only [List.getElem?_toArray, List.getElem?_cons_succ, List.getElem?_cons_zero, Option.some.injEq] at ho
                subst ho
                obtain ⟨hRow, g, cs, rfl, hvw, hg1, hg2⟩ := hRI
                have hN : NewText W mk (.slice (some ⟨g, 0, none⟩) mk.size cs) wx := ⟨g, cs, rfl, hvw, hg1, hg2⟩
                have hnw := (Upd.refl [] wx).alloc (Obj.cells #[.slice (some ⟨g, 0, none⟩) mk.size cs] 29)
                rcases vsB with _ | ⟨u1, _ | ⟨u2, _ | ⟨u3, r5⟩⟩⟩
                all_goals (try exact hTI.elim)
                all_goals (refine step_build wx rfl 25 29 (.tmp 52) rfl (v := .slice (some ⟨g, 0, none⟩) mk.size cs) (by rfl) #[.slice (some ⟨g, 0, none⟩) mk.size cs] Tryz.underlying25 Tryz.info29 (by decide) (by decide) (by kernel_rfl) ?_)
                all_goals (refine hL _ _ _ rfl (hUx.trans hnw (by simp)) ⟨hUx.trans hnw (by simp), ⟨hRow.upd hnw (by simp), hN.upd hnw (by simp), _, rfl, heap_alloc_new _ _, hUx.size⟩, hTI.upd hnw (by simp), trivial⟩)
              · obtain rfl : 5 = x := by simpa using hx
                simp only [List.getElem?_toArray, List.getElem?_cons_succ, List.getElem?_cons_zero, Option.some.injEq] at ho
                subst ho
                obtain ⟨hRow, ⟨g, cs, rfl, hvw, hg1, hg2⟩, y, rfl, hy, hyW⟩ := hRI
                have hgA : g ∉ bk al' := fun h => by have := hlE g h; omega
                have hsrc : Src Tryz.prog 1 25 (.slice (some ⟨y, 0, none⟩) 1 1) 1 [.slice (some ⟨g, 0, none⟩) mk.size cs] wx := Src.ofRange Tryz.underlying25 rfl (rangeAt_blk hy) (by simp [Value.oneCell'])
                rcases vsB with _ | ⟨u1, _ | ⟨u2, _ | ⟨u3, r5⟩⟩⟩
                all_goals (try exact hTI.elim)
                all_goals (refine step_app wx rfl (.tmp 49) (.tmp 53) 25 25 rfl 29 (.slice none 0 0) 1 24 Tryz.underlying25 Tryz.info29 rfl (by decide) hRow (by rfl) hsrc (by rfl) (by decide) (by omega) ?_)
                all_goals (intro al1 cl1 w' hown hupd hin; refine hL _ _ _ rfl (hUx.trans hupd (fun _ h => .inl h)) ⟨hUx.trans hupd (fun _ h => .inl h), ⟨al1, cl1, g, cs, rfl, hvw.upd hupd (fun x hx hx' => by simp at hx; subst hx; exact hgA hx'), hg1, Nat.lt_of_lt_of_le hg2 hupd.size, rfl, hown, hin.le hUx.size, fun h => (hin g h).elim hgA (fun h => by omega)⟩, hTI.upd hupd hlE, ?_⟩)
                · trivial
                · obtain ⟨g2, cs2, rfl, _, hg3, hg4⟩ := hTI
                  exact fun hgx => (hin g2 hgx).elim (fun h => by have := hlE g2 h; omega) (fun h => by omega)
                · obtain ⟨⟨g2, cs2, rfl, _, hg3, hg4⟩, _⟩ := hTI
                  exact fun hgx => (hin g2 hgx).elim (fun h => by have := hlE g2 h; omega) (fun h => by omega)
              · simp at hx
              · exact hRI.elim
            · intro vsA vsB wx x o hx ho hJ L hL
              obtain ⟨hUx, hRI, hTI, hRT⟩ := hJ
              rcases vsB with _ | ⟨u1, _ | ⟨u2, _ | ⟨u3, r5⟩⟩⟩
              · obtain rfl : 9 = x := by simpa using hx
                simp only [List.getElem?_toArray, List.getElem?_cons_succ, List.getElem?_cons_zero, Option.some.injEq] at ho
                subst ho
                rcases vsA with _ | ⟨v1, _ | ⟨v2, _ | ⟨v3, _ | ⟨v4, r4⟩⟩⟩⟩
                all_goals (try exact hRI.elim)
                all_goals (refine step_bytes wx rfl 9 29 5 (.tmp 57) rfl Tryz.underlying9 Tryz.underlying29 Tryz.underlying5 mv (by rfl) ?_)
                all_goals (intro cs w' hvw hu hsz; refine hL _ _ _ rfl (hUx.trans hu (by simp)) ⟨hUx.trans hu (by simp), hRI.keep hu, ⟨_, cs, rfl, hvw, hUx.size, hsz⟩, ?_⟩)
                · trivial
                · trivial
                · trivial
                · obtain ⟨al1, cl1, g, cs', rfl, _, _, _, rfl, hown, _⟩ := hRI
                  exact fun hgx => Nat.lt_irrefl _ (hown.lt _ hgx)
              · obtain rfl : 10 = x := by simpa using hx
                simp only [List.getElem?_toArray, List.getElem?_cons_succ, List.getElem?_cons_zero, Option.some.injEq] at ho
                subst ho
                obtain ⟨g, cs, rfl, hvw, hg1, hg2⟩ := hTI
                have hTI' : NewText W mv (.slice (some ⟨g, 0, none⟩) mv.size cs) wx := ⟨g, cs, rfl, hvw, hg1, hg2⟩
                have hnw := (Upd.refl [] wx).alloc (Obj.cells #[.slice (some ⟨g, 0, none⟩) mv.size cs] 29)
                rcases vsA with _ | ⟨v1, _ | ⟨v2, _ | ⟨v3, _ | ⟨v4, r4⟩⟩⟩⟩
                all_goals (try exact hRI.elim)
                all_goals (refine step_build wx rfl 25 29 (.tmp 58) rfl (v := .slice (some ⟨g, 0, none⟩) mv.size cs) (by rfl) #[.slice (some ⟨g, 0, none⟩) mv.size cs] Tryz.underlying25 Tryz.info29 (by decide) (by decide) (by kernel_rfl) ?_)
                all_goals (refine hL _ _ _ rfl (hUx.trans hnw (by simp)) ⟨hUx.trans hnw (by simp), hRI.keep hnw, ⟨hTI'.upd hnw (by simp), _, rfl, heap_alloc_new _ _, hUx.size⟩, ?_⟩)
                · trivial
                · trivial
                · trivial
                · obtain ⟨al1, cl1, g', cs', rfl, _, _, _, rfl, hown, _⟩ := hRI
                  exact hRT
              · simp at hx
              · exact hTI.elim
            · intro vsA vsB wx hlA' hlB hJ
              obtain ⟨hUx, hRI, hTI, hRT⟩ := hJ
              rcases vsA with _ | ⟨v1, _ | ⟨v2, _ | ⟨v3, _ | ⟨v4, r4⟩⟩⟩⟩
              all_goals (try (simp at hlA'; done))
              rcases vsB with _ | ⟨u1, _ | ⟨u2, _ | ⟨u3, r5⟩⟩⟩
              all_goals (try (simp at hlB; done))
              obtain ⟨al1, cl1, gk, ck, rfl, hvk, hgk1, hgk2, rfl, hRow, hin1, hgk3⟩ := hRI
              obtain ⟨⟨gv, cw, rfl, hvv, hgv1, hgv2⟩, y, rfl, hy, hyW⟩ := hTI
              have hall3 : Row wx 29 1 av' (A + j) cv' vv' := hM5.V.upd hUx (fun x hx hx' => hM5.sep x hx' hx)
              have hsrc : Src Tryz.prog 1 25 (.slice (some ⟨y, 0, none⟩) 1 1) 1 [.slice (some ⟨gv, 0, none⟩) mv.size cw] wx := Src.ofRange Tryz.underlying25 rfl (rangeAt_blk hy) (by simp [Value.oneCell'])
              simp only [opersAt, List.filterMap_cons, List.filterMap_nil, List.getElem?_toArray, List.getElem?_cons_succ, List.getElem?_cons_zero, actAt, putAll, List.zip_cons_cons, List.zip_nil_right, List.nil_append, List.cons_append, Act.put, List.setIfInBounds_toArray, List.set_cons_zero, List.set_cons_succ]
              change wpList _ _ _ [_, _, _] _ _
              go_wp2_with (at_builtin; refine wpList_app _ rfl (.tmp 55) (.tmp 59) 25 25 rfl 29 (.slice none 0 0) 1 24 Tryz.underlying25 Tryz.info29 rfl (by decide) hall3 rfl hsrc rfl (by decide) (by omega) ?_; intro av1 cv1 w4 hown2 hupd2 hin2)
              have hRT' : gv ∉ bk al1 := hRT
              have hnext := hM5.next hUx hRow hin1 hvk ⟨hgk1, hgk2, hgk3⟩ hvv ⟨hgv1, hgv2, hRT'⟩ hown2 hupd2 hin2
              have hfin : MapSt w1 w4 al1 av1 ae (A + (j + 1)) k cl1 cv1 ce (vk' ++ [.slice (some ⟨gk, 0, none⟩) mk.size ck]) (vv' ++ [.slice (some ⟨gv, 0, none⟩) mv.size cw]) K1 V1 E := by rw [HE3.out, HE4.out]; exact hnext
              clear hnext hown2 hupd2 hin2 hall3 hM5 c0 c1 hsrc hRow hvk hvv hy hUx
              go_roundw
              case rel => exact ⟨j + 1, al1, av1, cl1, cv1, _, _, by omega, by go_num, by go_num, by go_num, HOK1.out, by rw [← HK1.out, ← HV1.out]; exact hfin⟩
              case measure => simp [intOf]; omega
        · have hj0 : (l : Int) ≤ j := by omega
          obtain rfl : j = l := by omega
          rw [List.take_of_length_le (by omega)] at hI hok
          clear hl
          have hwu : IntKind.u64.wrap ((A : Int) + j) = (A : Int) + j := IntWalk.u64_in _ (by omega)
          go_wp2_with (at_builtin; refine wpList_app1 _ rfl (.tmp 62) (.tmp 67) 22 rfl 28 _ 4 32 Tryz.underlying22 Tryz.info28 rfl (by decide) hI.E rfl [.int .u64 ((A : Int) + j), .int .u64 0, .int .u64 0, .int .u64 0] rfl rfl rfl (by simp [Value.oneCell']) (by decide) (by omega) ?_; intro ae1 ce1 w2 hown1 hupd1 hin1)
          have hrow := hI.row (r := endR ((A + j : Nat) : Int)) (by simpa [endR, R4.cells] using hown1) hupd1 hin1
          have hl := HL.out
          have hseen' := HS.out ⟨by omega, hok⟩
          have hfin : MapSt w1 w2 al' av' ae1 ((pss.take (k + 1)).flatten.length) (k + 1) cl' cv' ce1 vk' vv' (keys_of (pss.take (k + 1)).flatten) (vals_of (pss.take (k + 1)).flatten) ((endsP pss (k + 1)).map endR) := by
            rw [H3.out, H4.out, H5.out, H6.out, ← hl]; exact hrow
          have h5 := H5.out
          rw [← hl] at h5
          refine ⟨⟨k + 1, al', av', ae1, cl', cv', ce1, vk', vv', by omega, by go_num, by rw [h5], by rw [h5], rfl, hseen', hfin⟩, by simp [intOf]; omega⟩
    · have hk0 : n ≤ k := by omega
      obtain rfl : k = n := by omega
      rw [List.take_of_length_le (by omega)] at hM hseen hAb ⊢
      have hfew : FewP pss := ⟨by omega, hseen⟩
      have hU3 := hu1.trans hM.upd (by simp)
      have hr3 := hr1.upd hM.upd (by simp)
      have hP3 := hP1.upd hM.upd
      have hA := fun (w : World) (hr) (hP) => ARMap ar k c vs pss w hr hP hfew
      have bok := hfew.ok pss.length
      rw [List.take_length] at bok
      have b4 := keys_tot _ bok
      have b5 := vals_tot _ bok
      have b7 := keys_short _ bok
      have b8 := vals_short _ bok
      have hkl : (keys_of pss.flatten).length = pss.flatten.length := List.length_map ..
      have hvl : (vals_of pss.flatten).length = pss.flatten.length := List.length_map ..
      have hbk : AllBytes (encS (keys_of pss.flatten)) := encS_bytes _ (fun t ht => ⟨(b7 t ht).1, by obtain ⟨s, _, rfl⟩ := List.mem_map.1 ht; exact byteCells_all s.1⟩)
      have hbv : AllBytes (encS (vals_of pss.flatten)) := encS_bytes _ (fun t ht => ⟨(b8 t ht).1, by obtain ⟨s, _, rfl⟩ := List.mem_map.1 ht; exact byteCells_all s.2⟩)
      have ek := encS_len (keys_of pss.flatten)
      have ev := encS_len (vals_of pss.flatten)
      have hends : ((endsP pss k).map endR).map (·.a) = endsP pss k := by
        rw [List.map_map]
        exact List.map_id' (endsP pss k)
      have hle : ((endsP pss k).flatMap (leV 8)).length = k * 8 := by rw [flatMap_len _ 8 (leV_len 8), endsP_len]
      obtain ⟨FL, hFL⟩ : ∃ FL, FL = pss.flatten.length := ⟨_, rfl⟩
      obtain ⟨K, hK⟩ : ∃ K, K = keys_of pss.flatten := ⟨_, rfl⟩
      obtain ⟨V, hV⟩ : ∃ V, V = vals_of pss.flatten := ⟨_, rfl⟩
      obtain ⟨EN, hEN⟩ : ∃ EN, EN = endsP pss k := ⟨_, rfl⟩
      rw [← hFL, ← hK, ← hV, ← hEN] at hM
      rw [← hK, ← hV, ← hEN] at hA
      rw [← hFL] at hAb hkl hvl b4 b5 ⊢
      rw [← hK] at b4 b7 hkl hbk ek
      rw [← hV] at b5 b8 hvl hbv ev
      rw [← hEN] at hends hle
      obtain ⟨NK, hNK⟩ : ∃ NK, NK = (encS K).length := ⟨_, rfl⟩
      obtain ⟨NV, hNV⟩ : ∃ NV, NV = (encS V).length := ⟨_, rfl⟩
      rw [← hNK, ← hNV] at hA
      rw [← hNK] at ek
      rw [← hNV] at ev
      have hNKb : NK ≤ 10000 := by omega
      have hNVb : NV ≤ 10000 := by omega
      have hcat : [EN.flatMap (leV 8), encS K, encS V].flatMap id = EN.flatMap (leV 8) ++ encS K ++ encS V := by simp
      have htot : tot [EN.flatMap (leV 8), encS K, encS V] = k * 8 + NK + NV := by
        simp only [tot, hcat, List.length_append]; omega
      have hball : AllBytes (EN.flatMap (leV 8) ++ encS K ++ encS V) := AllBytes.append (AllBytes.append (AllBytes.flat (leV_bytes 8) EN) hbk) hbv
      have HNK := Lib.hid hNK
      have HNV := Lib.hid hNV
      have HEND := Lib.hid hends
      have HCAT := Lib.hid hcat
      have HTOT := Lib.hid htot
      have hC := fun (ar : Option Addr) (c : Nat) (vs : List Value) (w : World) (hr) (hT) => Concat ar 3 c vs [EN.flatMap (leV 8), encS K, encS V] w hr hT (by omega) (by have := HTOT.out; omega)
      rw [HTOT.out, HCAT.out] at hC
      clear hFL hK hV hEN hNK hNV hends hcat htot ek ev hle hkl hvl b4 b5
      go_wp2_with (first
        | (go_at_call 28; (refine (hA _ hr3 hP3).mono ?_); rintro e w4 ⟨⟨ab, cb, rfl, hRb⟩, hu4⟩)
        | (go_at_call 9; (refine (NCEncode_10 ae k ce (EN.map endR) _ (hM.E.toView.upd hu4 (by simp)) (by omega)).mono ?_); rintro e w5 ⟨a5, c5, rfl, hR5, hu5, hi5⟩; rw [HEND.out] at hR5; have hu45 := hu4.trans hu5 (by simp))
        | (go_at_call 18; (with_reducible refine (wxText al FL cl vk K _ (hM.K.toView.upd hu45 (by simp)) ((hM.tk.upd hu45 (by simp)).mono (by simp)) b7 (by omega)).mono ?_); rintro e w6 ⟨a6, c6, rfl, hR6, hu6, hi6⟩; rw [← HNK.out] at hR6 ⊢; have hu46 := hu45.trans hu6 (by simp))
        | (go_at_call 18; (with_reducible refine (wxText av FL cv vv V _ (hM.V.toView.upd hu46 (by simp)) ((hM.tv.upd hu46 (by simp)).mono (by simp)) b8 (by omega)).mono ?_); rintro e w7 ⟨a7, c7, rfl, hR7, hu7, hi7⟩; rw [← HNV.out] at hR7 ⊢)
        | (go_at_call 24; apply stopHere))
      show Calls _ _ _ _ _
      have hR5' := (hR5.upd hu6 (by simp)).upd hu7 (by simp)
      have hR6' := hR6.upd hu7 (by simp)
      have h3 := (TextsV.three (c1 := c5) (c2 := c6) (c3 := c7) hR5'.toView hR6'.toView hR7.toView (AllBytes.flat (leV_bytes 8) EN) hbk hbv hR5'.lt hR6'.lt hR7.lt).upd ((Upd.refl [] w7).alloc (Obj.cells #[.slice a5 (k * 8) c5, .slice a6 NK c6, .slice a7 NV c7] 29)) (by simp)
      have hv3 := View.made w7 [.slice a5 (k * 8) c5, .slice a6 NK c6, .slice a7 NV c7] 29 1 3 rfl
      have ux := (Upd.refl [] w7).alloc (Obj.cells #[.slice a5 (k * 8) c5, .slice a6 NK c6, .slice a7 NV c7] 29)
      refine (hC _ _ _ _ hv3 h3).mono ?_
      rintro e w8 ⟨a8, c8, rfl, hR8, hu8, hi8⟩
      dsimp only
      have hu48 : Upd [] w4 w8 := (((hu5.trans hu6 (by simp)).trans hu7 (by simp)).trans ux (by simp)).trans hu8 (by simp)
      go_wp2_with (first
        | (go_at_call 10; (refine (bytesEqual ab a8 _ _ _ _ _ _ (hRb.toView.upd hu48 (by simp)) hR8.toView hball).mono ?_); rintro e w9 ⟨rfl, rfl⟩)
        | (go_at_call 12; (refine (ncAwake _).mono ?_); rintro e w10 ⟨rfl, hu10⟩))
      go_ret
      exact ⟨rfl, ((hU3.trans hu4 (by simp)).trans hu48 (by simp)).trans hu10 (by simp)⟩
end Go.Proofs.YtpehfhdacgjmpaaGreat
