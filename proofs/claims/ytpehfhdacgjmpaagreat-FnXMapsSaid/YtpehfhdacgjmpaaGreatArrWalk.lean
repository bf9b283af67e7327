/- FnXArrays: the walk of the law. -/
import Derived.Test.YtpehfhdacgjmpaaGreatFlat
import Derived.Test.YtpehfhdacgjmpaaGreatAwake
namespace Go.Proofs.YtpehfhdacgjmpaaGreat
open Go Go.RowKit
theorem encS_bytes (ts : List (List Value)) (h : ∀ t ∈ ts, t.length < 128 ∧ AllBytes t) : AllBytes (encS ts) := fun u hu => by
  obtain ⟨t, ht, hut⟩ := List.mem_flatMap.1 hu
  rcases List.mem_cons.1 hut with h1 | h1
  · exact ⟨_, h1, by omega, by have := (h t ht).1; omega⟩
  · exact (h t ht).2 u h1
theorem ends_map (es : List Int) : ((es.map endR).map (·.a)).flatMap (leV 8) = es.flatMap (leV 8) := by
  rw [List.map_map]
  congr 1
  exact List.map_id' es
theorem wpList_appG {P : Program} (w : World) {ops : Array Oper} {rest : List Oper} {o : Oper} {a : Act} {Q : Exit → Act → World → Prop} (hw : Region.wanted o (yielded ops a.tmps) = true) (s x : Operand) (t tx : TypeId)
    (ho : o.op = .call { callee := .builtin .append, args := #[s, x], argTypes := #[t, tx] })
    (e : TypeId) (z : Value) (size bytes : Nat) (ht : P.underlying t = some (.slice e))
    (hinfo : (P.info? e).map (fun i => (i.zero, i.size, i.bytes)) = some (some z, size, bytes)) (hzs : z.cells.size = size) (hsz : 0 < size)
    {ao : Option Addr} {n cp : Nat} {xs : List Value} (hown : Row w e size ao n cp xs) (hs : a.eval s = .slice ao n cp)
    {vx : Value} {m : Nat} {news : List Value} (hsrc : Src P size tx vx m news w) (hx : a.eval x = vx) (hb0 : 0 < bytes) (hbytes : (n + m) * bytes ≤ 140737488355328)
    (h : ∀ ao' c' w', Row w' e size ao' (n + m) c' (xs ++ news) → Upd (bk ao) w w' → In (bk ao) w.heap.size ao' → wpList P ops Q rest (a.put o.dst (.slice ao' (n + m) c')) w') : wpList P ops Q (o :: rest) a w :=
  wpList_step fun K hK => by
    rw [if_pos hw]
    obtain ⟨ao', c', w', hr, h2, h3, h5⟩ := run_app (P := P) w t tx o.type e z size bytes ht hinfo hzs hsz ao n cp xs hown vx m news hsrc hb0 hbytes
    unfold Oper.wp execOp
    simp only [ho, resolve, invoke, builtin, Sem.run_bind, Sem.run_pure, Result.andThen_ok, List.map_toArray, List.map_cons, List.map_nil, hs, hx, hr]
    exact hK _ _ (h ao' c' w' h2 h3 h5)
theorem View.src {w : World} {ao : Option Addr} {n c : Nat} {bs : List Value} (hv : View w 1 ao n bs) (h1 : ∀ u ∈ bs, u.oneCell' = true) : Src Tryz.prog 1 29 (.slice ao n c) n bs w := by
  have hl := hv.len
  by_cases h0 : n = 0
  · subst h0
    obtain rfl : bs = [] := List.eq_nil_of_length_eq_zero (by simpa using hl)
    cases ao with
    | none => exact Src.ofNil _ Tryz.underlying29 _
    | some a => exact Src.ofSlice _ Tryz.underlying29 a 0 c [] rfl (by simp) (by simp)
  · obtain ⟨b, o, rfl, hr, hb⟩ := hv.at_ (by omega)
    exact Src.ofRange Tryz.underlying29 hl hr h1
set_option maxRecDepth 100000 in
set_option maxHeartbeats 1000000 in
theorem arrays (ar : Option Addr) (n c : Nat) (vs : List Value) (sss : List (List ByteArray)) (w : World) (hr : View w 1 ar n vs) (hS : StrsV w n vs sss) (hn : n ≤ 9223372036854775807) :
    Calls Tryz.prog 4 #[.slice ar n c] w fun e w' => e = .returned (.bool true) ∧ Upd [] w w' := by
  go_enter Tryz.func4, Tryz.ntmps4
  go_wp2_with (go_at_call 13; (refine (zzFits1 ar n c vs sss _ hr hS).mono ?_); rintro e w1 ⟨⟨b1, rfl⟩, hu1⟩; cases b1)
  · go_ret
    exact ⟨rfl, hu1⟩
  have hr1 := hr.upd hu1 (by simp)
  have hS1 := hS.upd hu1
  go_wp2_with (go_at_call 14; (refine (wxFew ar n c vs sss _ hr1 hS1 hn).mono ?_); rintro e w2 ⟨⟨b2, rfl, hb2⟩, hu2⟩; have HB := Lib.hid hb2; clear hb2; cases b2)
  · go_ret
    exact ⟨rfl, hu1.trans hu2 (by simp)⟩
  have hfew : Few sss := by have := HB.out; simpa using this
  have hr2 := hr1.upd hu2 (by simp)
  have hS2 := hS1.upd hu2
  show Calls _ _ _ _ _
  refine (wxFlat ar n c vs sss w2 hr2 hS2 hfew).mono ?_
  rintro e w3 ⟨al, cl, vs', ae, ce, rfl, hF⟩
  dsimp only
  have hU3 : Upd [] w w3 := (hu1.trans hu2 (by simp)).trans hF.upd (by simp)
  have hr3 := hr2.upd hF.upd (by simp)
  have hS3 := hS2.upd hF.upd
  have hA := (ARStr ar n c vs sss w3 hr3 hS3 hfew)
  have hlenA := hfew.len sss.length
  rw [List.take_length] at hlenA
  have hshort := hfew.short
  have hbytes : AllBytes (encS (sss.flatten.map byteCells)) := encS_bytes _ (fun t ht => ⟨(hshort t ht).1, by obtain ⟨s, _, rfl⟩ := List.mem_map.1 ht; exact byteCells_all s⟩)
  obtain ⟨FL, hFL⟩ : ∃ FL, FL = sss.flatten.length := ⟨_, rfl⟩
  obtain ⟨T, hT⟩ : ∃ T, T = sss.flatten.map byteCells := ⟨_, rfl⟩
  obtain ⟨E, hE⟩ : ∃ E, E = endsN sss n := ⟨_, rfl⟩
  rw [← hFL, ← hT, ← hE] at hF
  rw [← hT, ← hE] at hA
  rw [← hT] at hshort hbytes
  rw [← hFL] at hlenA ⊢
  obtain ⟨N, hN⟩ : ∃ N, N = (encS T).length := ⟨_, rfl⟩
  rw [← hN] at hA
  have hNb : N ≤ 20000 := by
    have h1 := encS_len T
    have h2 := hfew.tot sss.length
    rw [List.take_length, ← hT] at h2
    have h3 : T.length = FL := by rw [hT, List.length_map, hFL]
    omega
  have HN := Lib.hid hN
  clear hFL hT hE hN
  have hrows := hfew.rows
  have hlent := hS.lent
  have hone : ∀ u ∈ E.flatMap (leV 8), u.oneCell' = true := (AllBytes.flat (leV_bytes 8) E).one
  go_wp2_with (first
    | (go_at_call 16; (refine hA.mono ?_); rintro e w4 ⟨⟨ab, cb, rfl, hRb⟩, hu4⟩)
    | (go_at_call 9; (refine (NCEncode_10 ae n ce (E.map endR) _ (hF.ends.toView.upd hu4 (by simp)) (by omega)).mono ?_); rintro e w5 ⟨a5, c5, rfl, hR5, hu5, hi5⟩; rw [ends_map] at hR5)
    | (go_at_call 17; (refine (Clone a5 (n * 8) c5 _ _ hR5.toView hone (by omega) (fun ha => hR5.head_or.elim (fun h => ⟨h.2.1, h.2.2.1⟩) (fun ⟨g, hg⟩ => by rw [ha] at hg; cases hg))).mono ?_); rintro e w6 ⟨a6, c6, rfl, hR6, hu6, hi6⟩)
    | (go_at_call 18; have hu46 := (hu4.trans hu5 (by simp)).trans hu6 (by simp); (refine (wxText al FL cl vs' T _ (hF.all.toView.upd hu46 (by simp)) ((hF.txt.upd hu46 (by simp)).mono (by simp)) hshort (by omega)).mono ?_); rintro e w7 ⟨a7, c7, rfl, hR7, hu7, hi7⟩; rw [← HN.out] at hR7 ⊢)
    | (at_builtin; (refine wpList_appG _ (by rfl) (.tmp 28) (.tmp 30) 29 29 rfl 5 (.int .u8 0) 1 1 Tryz.underlying29 Tryz.info5 rfl (by decide) (hR6.upd hu7 (by simp)) rfl (hR7.toView.src hbytes.one) rfl (by decide) (by omega) ?_); intro a8 c8 w8 hR8 hu8 hi8; have hu8' : Upd [] w4 w8 := (((hu5.trans hu6 (by simp)).trans hu7 (by simp)).trans hu8 (fun y hy => (hi6 y hy).elim (fun h => by simp at h) (fun h => .inr (Nat.le_trans hu5.size h)))))
    | (go_at_call 10; (refine (bytesEqual ab a8 _ _ _ _ _ _ (hRb.toView.upd hu8' (by simp)) hR8.toView (AllBytes.append (AllBytes.flat (leV_bytes 8) E) hbytes)).mono ?_); rintro e w9 ⟨rfl, rfl⟩)
    | (go_at_call 12; (refine (ncAwake _).mono ?_); rintro e w10 ⟨rfl, hu10⟩))
  go_ret
  exact ⟨rfl, ((hU3.trans hu4 (by simp)).trans hu8' (by simp)).trans hu10 (by simp)⟩
end Go.Proofs.YtpehfhdacgjmpaaGreat
