/- impl.decode over columns of any kinds. -/
import Derived.Test.YtfbohkbpgfnceaaGreatDoorKR
namespace Go.Proofs.YtfbohkbpgfnceaaGreatDoor
set_option linter.unusedVariables false
set_option linter.unusedSimpArgs false
open Go Go.RowKit
set_option maxRecDepth 100000 in
set_option maxHeartbeats 4000000 in
theorem decode_K (fB : FuncId) (hent : ∀ (args : Array Value) (w : World), (callFunc fB args).run Tryz.prog w = .ok (.enter fB args) w) (cap : Value) (ov : Bool) (b : Int) (R : Nat) (bytes rest : List Value) (d o N c : Nat) (ac : Option Addr) (cc : Nat) (bs : List Bc) (hn : bs.length ≤ 10) (hn0 : 0 < bs.length) (hok : ∀ x ∈ bs, OkB x) (hrn : ∀ x ∈ bs, x.rs.length = R) (hnm : ∀ x ∈ bs, 0 < x.nm.size) (hR : R ≤ 20) (w : World)
    (hcv : View w 3 ac bs.length (bs.flatMap Bc.cells)) (hr : w.rangeAt d o bytes) (hN : N = bytes.length) (hNc : N ≤ c) (hby : AllBytes bytes) (hdl : d < w.heap.size)
    (hBy : ∀ (kb rd bf : Nat) (ar : Option Addr) (cr : Nat) (qs : List (Bc × Nat)) (W : World), Upd [] w W → qs.map Prod.fst = bs → Rdr W rd bf d none (bytes) → W.heap[kb]? = some (blkC false 0 0 0) → Off kb rd bf d none → DecPre W kb rd bf d none ar qs →
      Calls Tryz.prog fB #[.pointer (some ⟨kb, 0, none⟩), .pointer (some ⟨rd, 0, none⟩), .iface 86 (.slice ar bs.length cr), cap] W fun e w' => e = .returned .nilIface ∧ w'.heap[kb]? = some (blkC ov b bs.length R) ∧ DecGot W w' kb rd bf d none qs rest) :
    Calls Tryz.prog 16 #[.slice (some ⟨d, o, none⟩) N c, .slice ac bs.length cc, .func (Fn.func fB) #[] #[cap]] w (Decoded w (headV ov b bs.length R) bs rest.length) := by
  obtain ⟨n, hnn⟩ : ∃ n, n = bs.length := ⟨_, rfl⟩
  rw [← hnn] at hn hn0 hcv hBy ⊢
  have HN := Lib.hid hnn
  have HB := Lib.hid hN
  have HRN := Lib.hid hrn
  clear hnn hN hrn
  obtain ⟨k1, u1, s1⟩ := alloc_facts w (Obj.cells #[.bool false, .int .i64 0, .int .i64 0, .int .i64 0] 30)
  obtain ⟨k2, u2, s2⟩ := alloc_facts (w.alloc (Obj.cells #[.bool false, .int .i64 0, .int .i64 0, .int .i64 0] 30)) (Obj.cells #[.bool false] 4)
  go_enter_defers Tryz.func16, Tryz.ntmps16
  go_wp2
  have k1' := u2.at k1 (by simp)
  have u12 := u1.trans u2 (fun _ h => .inl h)
  rw [s1] at k2 s2
  generalize (w.alloc (Obj.cells #[.bool false, .int .i64 0, .int .i64 0, .int .i64 0] 30)).alloc (Obj.cells #[.bool false] 4) = W2 at *
  clear u1 u2 s1 k1
  have hcv2 := hcv.upd u12 (by simp)
  go_loopw [7, 10, 11, 21] (fun a s l i wr => ∃ (k : Nat) (ar al : Option Addr) (cr cl : Nat) (qs : List (Bc × Nat)), k ≤ n ∧ a = .slice none 0 0 ∧ s = .slice ar k cr ∧ l = .slice al k cl ∧ i = .int .i64 k ∧ List.map Prod.fst qs = bs.take k ∧ Row wr 91 2 ar k cr (qs.flatMap inCells) ∧ Row wr 72 1 al k cl (qs.flatMap lCells) ∧
      (∀ q ∈ qs, EmpA wr W2.heap.size ar al q) ∧ qs.Pairwise (fun x y => x.2 < y.2) ∧ (∀ q ∈ qs, q.2 < wr.heap.size) ∧ Upd [] W2 wr ∧ In [] W2.heap.size ar ∧ In [] W2.heap.size al ∧ ∀ y, y ∈ bk ar → y ∉ bk al)
    (fun _ _ _ i _ => n - (intOf i).toNat)
  case atStart => exact ⟨0, none, none, 0, 0, [], Nat.zero_le _, rfl, rfl, rfl, rfl, rfl, Row.nil, Row.nil, by simp, List.Pairwise.nil, by simp, Upd.refl _ _, In.nil, In.nil, by simp⟩
  case round =>
    obtain ⟨k, ar, al, cr, cl, qs, hk, rfl, rfl, rfl, rfl, hqs, hRr, hRl, hE, hpw, hql, hU, hIr, hIl, hap⟩ := hrel
    by_cases hlt : k < n
    · have hk0 : ((k : Int) < n) := by omega
      have hkb : k < bs.length := by have := HN.out; omega
      obtain ⟨x, hx⟩ : ∃ x, x = bs[k] := ⟨_, rfl⟩
      have hxm : x ∈ bs := by rw [hx]; exact List.getElem_mem _
      obtain ⟨bb, oo, rfl, hrr, hbb⟩ := (hcv2.upd hU (by simp)).at_ (by omega)
      have hcl := cells_at Bc.cells 3 Bc.cells_len hrr k hkb
      rw [← hx] at hcl
      have d0 := hcl 0 (by omega)
      have d1 := hcl 1 (by omega)
      have d2 := hcl 2 (by omega)
      have hO := hok x hxm
      have hK := hO.ok
      have HX := Lib.hid hx
      clear hx hcl hrr
      simp only [Bc.cells, Nat.add_zero, List.getElem?_cons_zero, List.getElem?_cons_succ] at d0 d1 d2
      obtain ⟨k3, u3, s3⟩ := alloc_facts wr (Obj.cells #[Value.string x.nm, Value.int IntKind.i64 x.K.kind, Value.slice x.ar x.rs.length x.cp] 35)
      obtain ⟨k4, u4, s4⟩ := alloc_facts (wr.alloc (Obj.cells #[Value.string x.nm, Value.int IntKind.i64 x.K.kind, Value.slice x.ar x.rs.length x.cp] 35)) (Obj.cells #[Value.slice none 0 0] x.K.tC)
      have u34 := u3.trans u4 (fun _ h => .inl h)
      have kk := u4.at k3 (by simp)
      rw [s3] at k4 s4
      have hH0 : Hold _ (wr.heap.size + 1) x.K.tC x.K.tE x.K.size none 0 0 [] := ⟨k4, Row.nil, by simp⟩
      have hRl4 := hRl.upd u34 (by simp)
      have hRr4 := hRr.upd u34 (by simp)
      go_wp2_with (first
        | (go_at_call 23; (with_reducible refine (hK.col _).mono ?_); rintro e w1 ⟨rfl, hw1⟩; rw [← hw1] at k4 s4 u34 kk hRl4 hRr4 hH0; clear hw1; try rw [s3]; have S4 := Lib.hid s4; clear s4)
        | (at_builtin; (refine wpList_app1 _ rfl _ _ 87 rfl 72 _ 1 16 Tryz.underlying87 Tryz.info72 rfl (by decide) hRl4 rfl (lCells (x, wr.heap.size + 1)) rfl rfl rfl (by simp [lCells, Value.oneCell']) (by decide) (by omega) ?_); intro al3 cl3 w3 hown3 hupd3 hin3; have e0 : w3.cell? ⟨wr.heap.size, 0, none⟩ = some (.string x.nm) := (by have := hupd3.at kk (fun hx => by have := hRl.lt _ hx; omega); simp [World.cell?, this]))
        | (at_builtin; (refine wpList_app1 _ rfl _ _ 86 rfl 91 _ 2 32 Tryz.underlying86 Tryz.info91 rfl (by decide) (hRr4.upd hupd3 hap) rfl (inCells (x, wr.heap.size + 1)) rfl rfl rfl (by simp [inCells, Value.oneCell']) (by decide) (by omega) ?_); intro ar5 cr5 w5 hown5 hupd5 hin5))
      have hs4 := S4.out
      have hws := hU.size
      have hUw1 : Upd [] W2 w1 := hU.trans u34 (fun _ h => .inl h)
      have hUw3 : Upd [] W2 w3 := hUw1.own hupd3 hIl
      have hU5 : Upd [] W2 w5 := hUw3.own hupd5 hIr
      have hs13 := hupd3.size
      have hs35 := hupd5.size
      have hIr5 : In [] W2.heap.size ar5 := hIr.step hin5 hUw3.size
      have hIl3 : In [] W2.heap.size al3 := hIl.step hin3 hUw1.size
      have hrl := hRr.lt
      have hll := hRl.lt
      have hl3 := hown3.lt
      have hap' : ∀ y, y ∈ bk al3 → y ∉ bk ar := fun y hy hx => by
        rcases hin3 y hy with h | h
        · exact hap y hx h
        · have := hrl y hx; omega
      have hap5 : ∀ y, y ∈ bk ar5 → y ∉ bk al3 := fun y hy hx => by
        rcases hin5 y hy with h | h
        · exact hap' y hx h
        · have := hl3 y hx; omega
      have hE1 : ∀ q ∈ qs ++ [(x, wr.heap.size + 1)], EmpA w1 W2.heap.size ar al q := fun q hq => by
        rcases List.mem_append.1 hq with hq | hq
        · exact (hE q hq).upd u34
        · simp at hq
          subst hq
          refine ⟨hH0, by show W2.heap.size ≤ wr.heap.size + 1; omega, fun hx => ?_, fun hx => ?_⟩
          · have := hrl _ hx; omega
          · have := hll _ hx; omega
      have hE5 : ∀ q ∈ qs ++ [(x, wr.heap.size + 1)], EmpA w5 W2.heap.size ar5 al3 q := fun q hq => ((hE1 q hq).stepL hupd3 hin3).stepR hupd5 hin5
      have hpw5 : (qs ++ [(x, wr.heap.size + 1)]).Pairwise (fun x y => x.2 < y.2) := List.pairwise_append.2 ⟨hpw, List.pairwise_singleton _ _, fun a ha y hy => by
        simp at hy
        subst hy
        have := hql a ha
        show a.2 < wr.heap.size + 1
        omega⟩
      have hql5 : ∀ q ∈ qs ++ [(x, wr.heap.size + 1)], q.2 < w5.heap.size := fun q hq => by
        rcases List.mem_append.1 hq with hq | hq
        · have := hql q hq; omega
        · simp at hq
          subst hq
          show wr.heap.size + 1 < _
          omega
      have hRr5 : Row w5 91 2 ar5 (k + 1) cr5 ((qs ++ [(x, wr.heap.size + 1)]).flatMap inCells) := by
        rw [List.flatMap_append, List.flatMap_singleton]
        exact hown5
      have hRl5 : Row w5 72 1 al3 (k + 1) cl3 ((qs ++ [(x, wr.heap.size + 1)]).flatMap lCells) := by
        rw [List.flatMap_append, List.flatMap_singleton]
        exact hown3.upd hupd5 hap'
      have hqs5 : (qs ++ [(x, wr.heap.size + 1)]).map Prod.fst = bs.take (k + 1) := by
        rw [List.take_succ_eq_append_getElem hkb, ← HX.out, List.map_append, hqs]
        rfl
      go_roundw
      case rel => exact ⟨k + 1, ar5, al3, cr5, cl3, _, by omega, rfl, rfl, rfl, by go_num, hqs5, hRr5, hRl5, hE5, hpw5, hql5, hU5, hIr5, hIl3, hap5⟩
      case measure => simp [intOf]; omega
    · have hk0 : ¬ ((k : Int) < n) := by omega
      obtain rfl : k = n := by omega
      rw [List.take_of_length_le (by have := HN.out; omega)] at hqs
      go_wp2_with (first
        | (go_at_call 29; (refine (NewReader _ _ _ _).mono ?_); rintro e w3 ⟨rfl, rfl⟩)
        | ((with_reducible show Calls _ fB _ _ _); apply stopHere))
      show Calls _ _ _ _ _
      have hBs := HB.out
      have hqn : qs.length = k := by rw [← List.length_map (f := Prod.fst), hqs]; exact HN.out.symm
      obtain ⟨k3, u3, s3⟩ := alloc_facts wr (Obj.cells #[.bool false, .int .i64 0, .int .i64 0, .int .i64 0] 52)
      obtain ⟨k4, u4, s4⟩ := alloc_facts (wr.alloc (Obj.cells #[.bool false, .int .i64 0, .int .i64 0, .int .i64 0] 52)) (Obj.cells #[.slice none 0 0] 46)
      obtain ⟨k5, u5, s5⟩ := alloc_facts ((wr.alloc (Obj.cells #[.bool false, .int .i64 0, .int .i64 0, .int .i64 0] 52)).alloc (Obj.cells #[.slice none 0 0] 46)) (Obj.cells #[.slice (some ⟨d, o, none⟩) N c, .pointer (some ⟨wr.heap.size + 1, 0, none⟩)] 216)
      have kk3 := u5.at (u4.at k3 (by simp)) (by simp)
      have kk4 := u5.at k4 (by simp)
      have u35 := (u3.trans u4 (fun _ h => .inl h)).trans u5 (fun _ h => .inl h)
      rw [s3] at s4 kk4
      rw [s4] at s5 k5
      generalize ((wr.alloc (Obj.cells #[.bool false, .int .i64 0, .int .i64 0, .int .i64 0] 52)).alloc (Obj.cells #[.slice none 0 0] 46)).alloc (Obj.cells #[.slice (some ⟨d, o, none⟩) N c, .pointer (some ⟨wr.heap.size + 1, 0, none⟩)] 216) = W at *
      clear u3 u4 u5 k3 k4 s3 s4
      have hUW : Upd [] W2 W := hU.trans u35 (fun _ h => .inl h)
      have hwW : Upd [] w W := u12.trans hUW (fun _ h => .inl h)
      have hws := hU.size
      have hw2 := u12.size
      have hrl := hRr.lt
      have hll := hRl.lt
      have hrW := hwW.range hr hdl (by simp)
      have hRd : Rdr W (wr.heap.size + 1 + 1) (wr.heap.size + 1) d none bytes :=
        ⟨⟨o, c, by rw [← HB.out]; exact k5, by rw [← HB.out]; exact hNc, hrW⟩, hby, Nat.lt_of_lt_of_le hdl hwW.size, ⟨0, 0, [], ⟨kk4, Row.nil, by simp⟩⟩, by omega, by omega, by omega, by simp, by simp⟩
      have hOff : Off wr.heap.size (wr.heap.size + 1 + 1) (wr.heap.size + 1) d none := ⟨by omega, by omega, by omega, by simp⟩
      have hnotF : ∀ x, x < wr.heap.size → x ∉ qs.map Prod.snd → x ∉ wr.heap.size :: colF qs (wr.heap.size + 1 + 1) (wr.heap.size + 1) none := fun x hx hq hx' => by
        rcases List.mem_cons.1 hx' with e | e
        · omega
        · rcases List.mem_append.1 e with e | e
          · exact hq e
          · simp [rdF] at e; omega
      have hDP : DecPre W wr.heap.size (wr.heap.size + 1 + 1) (wr.heap.size + 1) d none ar qs := by
        refine ⟨by rw [hqn]; exact hRr.toView.upd u35 (by simp), fun x hx => hnotF x (hrl x hx) (fun hq => ?_), fun x hx => Nat.lt_of_lt_of_le (hrl x hx) u35.size, fun q hq => ⟨(hE q hq).1.kept u35 (by simp) (by simp), fun hx => ?_⟩, fun q hq e => ?_, fun q hq e => ?_, fun i j hi hj hij => ?_⟩
        · obtain ⟨q, hq, e⟩ := List.mem_map.1 hq
          exact (hE q hq).2.2.1 (by rw [e]; exact hx)
        · have := hql q hq
          simp [rdF] at hx; omega
        · have := (hE q hq).2.1; omega
        · have := hql q hq; omega
        · have hpg := List.pairwise_iff_getElem.1 hpw
          rcases Nat.lt_or_gt_of_ne hij with h | h
          · have := hpg i j hi hj h; omega
          · have := hpg j i hj hi h; omega
      refine (hBy wr.heap.size (wr.heap.size + 1 + 1) (wr.heap.size + 1) ar cr qs W hwW hqs hRd kk3 hOff hDP).mono ?_
      rintro e w6 ⟨rfl, hB6, ao6, hR6, hU6, hI6, hF6⟩
      dsimp only
      have hF0 : ∀ x, x < W2.heap.size → x ∉ wr.heap.size :: colF qs (wr.heap.size + 1 + 1) (wr.heap.size + 1) none := fun x hx => hnotF x (by omega) (fun hq => by
        obtain ⟨q, hq, e⟩ := List.mem_map.1 hq
        have := (hE q hq).2.1
        omega)
      have d1 := hU6.at (hUW.at k1' (by simp)) (hF0 _ (by rw [s2]; omega))
      have d2 := hU6.at (hUW.at k2 (by simp)) (hF0 _ (by rw [s2]; omega))
      have hl6 := (hRl.toView.upd u35 (by simp)).upd hU6 (fun x hx => hnotF x (hll x hx) (fun hq => by
        obtain ⟨q, hq, e⟩ := List.mem_map.1 hq
        exact (hE q hq).2.2.2 (by rw [e]; exact hx)))
      have hB6' := rangeAt_blk (cs := [.bool ov, .int .i64 b, .int .i64 k, .int .i64 R]) hB6
      have hkl6 := lt_of_block hB6
      have huA : Upd [] w w6 := hwW.trans hU6 (fun y hy => .inr (by
        rcases List.mem_cons.1 hy with e | e
        · omega
        · rcases List.mem_append.1 e with e | e
          · obtain ⟨q, hq, e⟩ := List.mem_map.1 e
            have := (hE q hq).2.1
            omega
          · simp [rdF] at e; omega))
      have hsw : w.heap.size + 1 < W2.heap.size := by rw [s2]; omega
      have HQ := Lib.hid hqs
      clear hB6 k5 kk3 kk4 hRd hOff hDP hU6 hI6 hqs hrW hE hpw hql hRr hRl hBs
      generalize wr.heap.size = kb at *
      go_wp2
      go_loopw [7, 54] (fun s i wz => ∃ (j : Nat) (av : Option Addr) (cv : Nat) (ws : List (Bc × Option Addr × Nat)), j ≤ k ∧ s = .slice av j cv ∧ i = .int .i64 j ∧ List.map Prod.fst ws = bs.take j ∧ Row wz 33 1 av j cv (ws.flatMap rowCells) ∧
          (∀ x ∈ ws, View wz 4 x.2.1 x.1.rs.length (keptV x.1) ∧ ∀ y, y ∈ bk x.2.1 → y ∉ bk av) ∧ (∀ x ∈ ws, ∀ y, y ∈ bk x.2.1 → w6.heap.size ≤ y ∧ y < wz.heap.size) ∧ Upd [] w6 wz ∧ In [] w6.heap.size av)
        (fun _ i _ => k - (intOf i).toNat)
      case atStart => exact ⟨0, none, 0, [], Nat.zero_le _, rfl, rfl, rfl, Row.nil, by simp, by simp, Upd.refl _ _, In.nil⟩
      case round =>
        obtain ⟨j, av, cv, ws, hj, rfl, rfl, hwsb, hRv, hV, hVl, hUz, hIz⟩ := hrel
        by_cases hjk : j < k
        · have hj0 : ((j : Int) < k) := by omega
          have hjq : j < qs.length := by omega
          obtain ⟨q, hx⟩ : ∃ q, q = qs[j] := ⟨_, rfl⟩
          have hqm : q ∈ qs := by rw [hx]; exact List.getElem_mem _
          obtain ⟨bl, ol, rfl, hrr, hbb⟩ := (hl6.upd hUz (by simp)).at_ (by omega)
          have hcl := cells_at lCells 1 (fun _ => rfl) hrr j hjq 0 (by omega)
          rw [← hx] at hcl
          simp only [lCells, Nat.mul_one, Nat.add_zero, List.getElem?_cons_zero] at hcl
          have hxm : q.1 ∈ bs := by rw [← HQ.out]; exact List.mem_map_of_mem hqm
          have hO := hok q.1 hxm
          obtain ⟨aq, cq, hC6, _, _, _⟩ := hF6 q hqm
          obtain ⟨g, rfl⟩ := hC6.own.head hO.r0
          have hCz : q.1.K.Held wr q.2 (some ⟨g, 0, none⟩) q.1.rs.length cq q.1.rs := hC6.kept hUz (by simp) (by simp)
          have hr20 := hO.r1
          have hall := all_K q.1.K hO.ok q.2 g q.1.rs.length cq q.1.rs wr hO.rok hCz rfl (by omega)
          have hrvl := hRv.lt
          have HX := Lib.hid hx
          clear hx hrr hCz hC6
          go_wp2_with (first
            | (go_at_call 30; (refine hall.mono ?_); rintro e w7 ⟨ao7, c7, rfl, hR7, hU7, hI7⟩)
            | (at_builtin; (refine wpList_app1 _ rfl _ _ 36 rfl 33 _ 1 24 Tryz.underlying36 Tryz.info33 rfl (by decide) (hRv.upd hU7 (by simp)) rfl (rowCells (q.1, ao7, c7)) rfl rfl rfl (by simp [rowCells, Value.oneCell']) (by decide) (by omega) ?_); intro av8 cv8 w8 hown8 hupd8 hin8))
          have hs7 := hU7.size
          have hs8 := hupd8.size
          have hsz6 := hUz.size
          have hU7' : Upd [] w6 w7 := hUz.trans hU7 (fun _ h => .inl h)
          have hU8 : Upd [] w6 w8 := hU7'.own hupd8 hIz
          have hI8 : In [] w6.heap.size av8 := hIz.step hin8 hU7'.size
          have hr7 := hR7.lt
          have hn7 : ∀ y, y ∈ bk ao7 → wr.heap.size ≤ y := fun y hy => (hI7 y hy).elim (fun h => by simp at h) id
          have hVl8 : ∀ x ∈ ws ++ [(q.1, ao7, c7)], ∀ y, y ∈ bk x.2.1 → w6.heap.size ≤ y ∧ y < w8.heap.size := fun x hx y hy => by
            rcases List.mem_append.1 hx with hx | hx
            · have := hVl x hx y hy; omega
            · simp at hx
              subst hx
              have := hr7 y hy
              have := hn7 y hy
              omega
          have hV8 : ∀ x ∈ ws ++ [(q.1, ao7, c7)], View w8 4 x.2.1 x.1.rs.length (keptV x.1) ∧ ∀ y, y ∈ bk x.2.1 → y ∉ bk av8 := fun x hx => by
            rcases List.mem_append.1 hx with hx | hx
            · refine ⟨((hV x hx).1.upd hU7 (by simp)).upd hupd8 (hV x hx).2, fun y hy hy' => ?_⟩
              have := hVl x hx y hy
              rcases hin8 y hy' with h | h
              · exact (hV x hx).2 y hy h
              · omega
            · simp at hx
              subst hx
              have hna : ∀ y, y ∈ bk ao7 → y ∉ bk av := fun y hy hy' => by
                have := hn7 y hy
                have := hrvl y hy'
                omega
              refine ⟨hR7.toView.upd hupd8 hna, fun y hy hy' => ?_⟩
              have := hr7 y hy
              rcases hin8 y hy' with h | h
              · exact hna y hy h
              · omega
          have hRv8 : Row w8 33 1 av8 (j + 1) cv8 ((ws ++ [(q.1, ao7, c7)]).flatMap rowCells) := by
            rw [List.flatMap_append, List.flatMap_singleton]
            exact hown8
          have hws8 : (ws ++ [(q.1, ao7, c7)]).map Prod.fst = bs.take (j + 1) := by
            have hjb : j < bs.length := by have := HN.out; omega
            rw [List.take_succ_eq_append_getElem hjb, List.map_append, hwsb]
            congr 1
            have : bs[j] = q.1 := by
              rw [HX.out]
              simp only [← HQ.out, List.getElem_map]
            rw [this]
            rfl
          go_roundw
          case rel => exact ⟨j + 1, av8, cv8, _, by omega, rfl, by go_num, hws8, hRv8, hV8, hVl8, hU8, hI8⟩
          case measure => simp [intOf]; omega
        · have hj0 : ¬ ((j : Int) < k) := by omega
          obtain rfl : j = k := by omega
          have hBz := hUz.range hB6' hkl6 (by simp)
          have e1z := hUz.at d1 (by simp)
          have e2z := hUz.at d2 (by simp)
          have hRz := hR6.kept hUz (by simp)
          have hs6 := huA.size
          have hkz : kb < wr.heap.size := Nat.lt_of_lt_of_le hkl6 hUz.size
          have hsW := hwW.size
          rw [List.take_of_length_le (by have := HN.out; omega)] at hwsb
          have HWB := Lib.hid hwsb
          clear hwsb d1 d2 hB6' hF6 hnotF hF0
          go_wp2_with (first
            | ((with_reducible show wpList _ _ _ _ _ _); refine wpList_load_mid rfl 52 (.tmp 15) rfl kb 0 rfl [.bool ov, .int .i64 b, .int .i64 j, .int .i64 R] _ hBz Tryz.underlying52 rfl (by kernel_rfl) ?_)
            | (go_at_call 31; (refine (head_of ov b j R _).mono ?_); rintro e w7 ⟨rfl, hu7⟩; have hR7 := hRz.kept hu7 (by simp); have e1 := hu7.at e1z (by simp); have e2 := hu7.at e2z (by simp))
            | (go_at_call 32; (refine (Left0 _ _ _ _ _ _ hR7).mono ?_); rintro e w8 ⟨rfl, hw8⟩; subst hw8)
            | ((with_reducible show wpList _ _ _ _ _ _); refine wpList_store_blk rfl 30 (.tmp 6) (.tmp 65) rfl (b := w.heap.size) rfl e1 (cs := [.bool ov, .int .i64 b, .int .i64 j, .int .i64 R]) rfl rfl (by kernel_rfl) (by simp [Value.oneCell']) ?_; intro w9 hb9 hu9; simp only [Act.put]; have e3 := hu9.at e2 (by simp); have g3 := cell_of_one e3; have f3 := free_of_one e3))
          have hV9 : Upd [w.heap.size] wr w9 := (hu7.mono (by simp)).trans hu9 (fun _ h => .inl h)
          have hsc := (Upd.refl [w.heap.size + 1] w9).setCell (p := ⟨w.heap.size + 1, 0, none⟩) (Value.bool true) (by simp)
          have hcB := cell_of_one (one_setCell (u := .bool true) e3)
          have z0 : w9.cell? ⟨w.heap.size, 0, none⟩ = some (.bool ov) := (cellAt hb9 0).trans rfl
          have z1 : w9.cell? ⟨w.heap.size, 1, none⟩ = some (.int .i64 b) := (cellAt hb9 1).trans rfl
          have z2 : w9.cell? ⟨w.heap.size, 2, none⟩ = some (.int .i64 j) := (cellAt hb9 2).trans rfl
          have z3 : w9.cell? ⟨w.heap.size, 3, none⟩ = some (.int .i64 R) := (cellAt hb9 3).trans rfl
          have hN0 : ∀ y, w6.heap.size ≤ y → y ∉ [w.heap.size] ∧ y ∉ [w.heap.size + 1] := fun y hy => by
            simp; omega
          have hfin : Decoded w (headV ov b j R) bs rest.length (.returned (.tuple #[headV ov b j R, .slice av j cv, .int .i64 rest.length, .bool true])) (w9.setCell ⟨w.heap.size + 1, 0, none⟩ (.bool true)) := by
            have hjb := HN.out
            refine ⟨av, cv, ws, HWB.out, by rw [← hjb], ?_, fun x hx => ⟨?_, fun y hy => .inr (by have := (hVl x hx y hy).1; omega)⟩, ?_, hIz.le hs6⟩
            · rw [← hjb]
              exact (hRv.upd hV9 (fun y hy => (hN0 y ((hIz y hy).elim (fun h => by simp at h) id)).1)).upd hsc (fun y hy => (hN0 y ((hIz y hy).elim (fun h => by simp at h) id)).2)
            · exact ((hV x hx).1.upd hV9 (fun y hy => (hN0 y (hVl x hx y hy).1).1)).upd hsc (fun y hy => (hN0 y (hVl x hx y hy).1).2)
            · exact ((huA.trans hUz (fun _ h => .inl h)).trans hV9 (fun y hy => .inr (by simp at hy; omega))).trans hsc (fun y hy => .inr (by simp at hy; omega))
          have HF := Lib.hid hfin
          clear hfin hV hVl hRv hwW
          refine leaves_cons (f := 28) (args := #[.pointer (some ⟨w.heap.size + 1, 0, none⟩)]) (by simp) (by simp [go_sem]) ?_
          refine (caught_idle ⟨w.heap.size + 1, 0, none⟩ _).mono ?_
          rintro e u' w'' ⟨rfl, rfl, rfl⟩
          simp [Leaves, settle, results, Tryz.results16, go_sem, hcB, z0, z1, z2, z3]
          exact HF.out
end Go.Proofs.YtfbohkbpgfnceaaGreatDoor
/- impl.BKDecode over columns of any kinds. -/
namespace Go.Proofs.YtfbohkbpgfnceaaGreatDoor
set_option linter.unusedVariables false
set_option linter.unusedSimpArgs false
open Go Go.RowKit
theorem Decoded.from {w w1 : World} {hd : Value} {bs : List Bc} {left : Nat} {e : Ending} {w' : World} (h : Decoded w1 hd bs left e w') (hu : Upd [] w w1) : Decoded w hd bs left e w' := by
  obtain ⟨ao, c, ws, h1, h2, h3, h4, h5, h6⟩ := h
  exact ⟨ao, c, ws, h1, h2, h3, fun x hx => ⟨(h4 x hx).1, (h4 x hx).2.le hu.size⟩, hu.trans h5 (fun _ h => .inl h), h6.le hu.size⟩
set_option maxRecDepth 100000 in
set_option maxHeartbeats 1000000 in
theorem BKDecode_K (ov : Bool) (b v : Int) (hb : -2147483648 ≤ b ∧ b < 2147483648) (R : Nat) (hR0 : 0 < R) (hR : R ≤ 20) (d o N c : Nat) (rest : List Value) (ac : Option Addr) (cc : Nat) (bs : List Bc) (hn : bs.length ≤ 10) (hn0 : 0 < bs.length) (hok : ∀ x ∈ bs, OkB x) (hrn : ∀ x ∈ bs, x.rs.length = R) (hnm : ∀ x ∈ bs, 0 < x.nm.size) (w : World)
    (hcv : View w 3 ac bs.length (bs.flatMap Bc.cells)) (hr : w.rangeAt d o (blkB v ov b R bs ++ rest)) (hN : N = (blkB v ov b R bs ++ rest).length) (hNc : N ≤ c) (hby : AllBytes rest) (hdl : d < w.heap.size) :
    Calls Tryz.prog 10 #[.slice (some ⟨d, o, none⟩) N c, .int .i64 v, .slice ac bs.length cc] w (Decoded w (headV (knB v ov) (knI v b) bs.length R) bs rest.length) := by
  have hmf : ∀ (fn : Fn) (first cap : Array Value) (w : World), (Instr.makeFunc fn first cap).run Tryz.prog w = .ok (.func fn first cap) w := fun _ _ _ _ => rfl
  obtain ⟨k1, u1, s1⟩ := alloc_facts w (Obj.cells #[.int .i64 v] 3)
  obtain ⟨k2, u2, s2⟩ := alloc_facts (w.alloc (Obj.cells #[.int .i64 v] 3)) (Obj.cells #[.bool false, .int .i64 0, .int .i64 0, .int .i64 0] 30)
  have k1' := cell_of_one (u2.at k1 (by simp))
  have u12 := u1.trans u2 (fun _ h => .inl h)
  rw [s1] at k2 s2
  have hent : ∀ (args : Array Value) (w : World), (callFunc 17 args).run Tryz.prog w = .ok (.enter 17 args) w := fun _ _ => by kernel_rfl
  have hd := decode_K 17 hent (.pointer (some ⟨w.heap.size, 0, none⟩)) (knB v ov) (knI v b) R (blkB v ov b R bs ++ rest) rest d o N c ac cc bs hn hn0 hok hrn hnm hR _ (hcv.upd u12 (by simp)) (u12.range hr hdl (by simp)) hN hNc ((blkB_bytes hok hn hR).append hby) (Nat.lt_of_lt_of_le hdl u12.size)
    (fun kb rd bf ar cr qs W hu hqs hRd hk ho hp => by
      have hql : qs.length = bs.length := by rw [← hqs, List.length_map]
      have hin : ∀ q ∈ qs, q.1 ∈ bs := fun q hq => by rw [← hqs]; exact List.mem_map_of_mem hq
      have hC : ColsOK R qs := ⟨by omega, by omega, fun q hq => hok _ (hin q hq), fun q hq => hrn _ (hin q hq), fun q hq => hnm _ (hin q hq), hR0, hR⟩
      have h := bkClosure_K w.heap.size kb rd bf d none ov b v hb R ar cr qs hC rest W (by rw [hqs]; exact hRd) hk ho hp (hu.cell1 k1' (by simp))
      rw [hql] at h
      exact h)
  obtain ⟨hv, hhv⟩ : ∃ hv, hv = headV (knB v ov) (knI v b) bs.length R := ⟨_, rfl⟩
  obtain ⟨x0, x1, x2, x3, hx⟩ : ∃ x0 x1 x2 x3 : Value, hv = .agg #[x0, x1, x2, x3] ∧ ∀ u ∈ [x0, x1, x2, x3], u.oneCell' = true := ⟨_, _, _, _, by rw [hhv]; exact ⟨rfl, by simp [Value.oneCell']⟩⟩
  rw [← hhv] at hd ⊢
  obtain ⟨rfl, hx1⟩ := hx
  clear hr hN hcv hhv
  go_enter Tryz.func10, Tryz.ntmps10
  go_wp2_with (first
    | (go_at_call 16; (refine hd.mono ?_); rintro e w3 ⟨ao3, c3, ws3, hq3, rfl, hR3, hV3, hu3, hi3⟩; have k3 := hu3.at k2 (by simp))
    | ((with_reducible show wpList _ _ _ _ _ _); refine wpList_store_blk rfl 30 (.tmp 6) (.tmp 14) rfl (b := w.heap.size + 1) rfl k3 (cs := [x0, x1, x2, x3]) rfl rfl (by kernel_rfl) hx1 ?_; intro w4 hb4 hu4; simp only [Act.put]))
  have hn4 : ∀ y, w.heap.size + 1 + 1 ≤ y → y ∉ [w.heap.size + 1] := fun y hy => by simp; omega
  rw [s2] at hi3
  have hV4 : ∀ x ∈ ws3, View w4 4 x.2.1 x.1.rs.length (keptV x.1) ∧ In [] w.heap.size x.2.1 := fun x hx => ⟨(hV3 x hx).1.upd hu4 (fun y hy => hn4 y (((hV3 x hx).2 y hy).elim (fun h => by simp at h) (fun h => by rw [s2] at h; exact h))), (hV3 x hx).2.le u12.size⟩
  have hR4 := hR3.upd hu4 (fun y hy => hn4 y ((hi3 y hy).elim (fun h => by simp at h) id))
  have z0 : w4.cell? ⟨w.heap.size + 1, 0, none⟩ = some x0 := (cellAt hb4 0).trans rfl
  have z1 : w4.cell? ⟨w.heap.size + 1, 1, none⟩ = some x1 := (cellAt hb4 1).trans rfl
  have z2 : w4.cell? ⟨w.heap.size + 1, 2, none⟩ = some x2 := (cellAt hb4 2).trans rfl
  have z3 : w4.cell? ⟨w.heap.size + 1, 3, none⟩ = some x3 := (cellAt hb4 3).trans rfl
  have huA : Upd [] w w4 := (u12.trans hu3 (fun _ h => .inl h)).trans hu4 (fun y hy => .inr (by simp at hy; omega))
  refine bodyPost_ret (v := .tuple #[.agg #[x0, x1, x2, x3], .slice ao3 bs.length c3, .int .i64 rest.length, .bool true]) ?_ rfl ⟨ao3, c3, ws3, hq3, rfl, hR4, hV4, huA, fun y hy => (hi3 y hy).elim (fun h => by simp at h) (fun h => .inr (by omega))⟩
  clear hV4 hV3
  simp [results, Tryz.results10, go_sem, z0, z1, z2, z3]
end Go.Proofs.YtfbohkbpgfnceaaGreatDoor
