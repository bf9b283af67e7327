/- FnXTuples: the walk of the law. -/
import Derived.Test.YtpehfhdacgjmpaaGreatTupLaw
namespace Go.Proofs.YtpehfhdacgjmpaaGreat
open Go Go.RowKit
def firsts (sss : List (List ByteArray)) : List ByteArray := sss.map first
def lens (sss : List (List ByteArray)) : List Int := sss.map fun r => (r.length : Int)
theorem first_size (r : List ByteArray) (h : ∀ s ∈ r, s.size ≤ 60) : (first r).size ≤ 60 := by
  cases r with
  | nil => simp [first, ByteArray.size]
  | cons s r => exact h s (by simp)
theorem AllBytes.tup {ts : List (List Value)} {bs ends : List Int} {tss : List (List Value)} (h1 : AllBytes (encS ts)) (h2 : AllBytes (encS tss)) : AllBytes (tupBytes ts bs ends tss 3) :=
  AllBytes.append (AllBytes.append h1 (AllBytes.flat (leV_bytes 4) bs)) (AllBytes.append (AllBytes.flat (leV_bytes 8) ends) h2)
set_option maxRecDepth 100000 in
set_option maxHeartbeats 8000000 in
theorem tuples (ar : Option Addr) (n c : Nat) (vs : List Value) (sss : List (List ByteArray)) (w : World) (hr : View w 1 ar n vs) (hS : StrsV w n vs sss) (hn : n ≤ 9223372036854775807) :
    Calls Tryz.prog 6 #[.slice ar n c] w fun e w' => e = .returned (.bool true) ∧ Upd [] w w' := by
  have hlent := hS.lent
  go_enter Tryz.func6, Tryz.ntmps6
  go_wp2_with (go_at_call 13; (refine (zzFits1 ar n c vs sss _ hr hS).mono ?_); rintro e w1 ⟨⟨b1, rfl⟩, hu1⟩; cases b1)
  · go_ret
    exact ⟨rfl, hu1⟩
  have hr1 := hr.upd hu1 (by simp)
  have hS1 := hS.upd hu1
  go_wp2_with (go_at_call 14; (refine (wxFew ar n c vs sss _ hr1 hS1 hn).mono ?_); rintro e w2 ⟨⟨b2, rfl, hb2⟩, hu2⟩; have HB := Lib.hid hb2; clear hb2; cases b2)
  · go_ret
    exact ⟨rfl, hu1.trans hu2 (by simp)⟩
  have hfew : Few sss := by have := HB.out; simpa using this
  have hr2 := hr1.upd hu2 (by simp)
  have hS2 := hS1.upd hu2
  have hu12 := hu1.trans hu2 (by simp)
  have hrows := hfew.rows
  go_loopw [3, 4, 5, 6, 22] (fun a b t m i wr => ∃ (k : Nat) (aa ab al ae : Option Addr) (ca cb cl ce : Nat) (vs' : List Value), k ≤ n ∧ i = .int .i64 k ∧ a = .slice aa k ca ∧ b = .slice ab k cb ∧ t = .slice al k cl ∧ m = .slice ae k ce ∧ TupSt w2 wr aa ab al ae k ca cb cl ce vs' (firsts (sss.take k)) (lens (sss.take k)))
    (fun _ _ _ _ i _ => n - (intOf i).toNat)
  case atStart => exact ⟨0, none, none, none, none, 0, 0, 0, 0, [], Nat.zero_le _, rfl, rfl, rfl, rfl, rfl, ⟨Row.nil, Row.nil, Row.nil, Row.nil, TextsV.nil, In.nil, In.nil, In.nil, In.nil, Upd.refl _ _⟩⟩
  case round =>
    obtain ⟨k, aa, ab, al, ae, ca, cb, cl, ce, vs', hk, rfl, rfl, rfl, rfl, rfl, hT⟩ := hrel
    by_cases hlt : k < n
    · have hk0 : ((k : Int) < n) := by omega
      obtain ⟨b, o, rfl, hrr, hbb⟩ := hr2.at_ (by omega)
      obtain ⟨ax, cx, hv1, hv2⟩ := hS2.at_ k hlt
      obtain ⟨ss, hss⟩ : ∃ ss, ss = sss[k]'(by omega) := ⟨_, rfl⟩
      rw [← hss] at hv1 hv2
      have hsk := (hfew.strs ss (by rw [hss]; exact List.getElem_mem _)).1
      have hcell : wr.cell? ⟨b, o + k, none⟩ = some (.slice ax ss.length cx) := (hT.upd.cell hbb (by simp)).trans (hrr k _ hv1)
      have hxv := hv2.upd hT.upd (by simp)
      have e1 : firsts (sss.take (k + 1)) = firsts (sss.take k) ++ [first ss] := by rw [List.take_succ_eq_append_getElem (by omega), ← hss]; simp [firsts]
      have e2 : lens (sss.take (k + 1)) = lens (sss.take k) ++ [(ss.length : Int)] := by rw [List.take_succ_eq_append_getElem (by omega), ← hss]; simp [lens]
      obtain ⟨F1, hF1⟩ : ∃ F1, F1 = firsts (sss.take (k + 1)) := ⟨_, rfl⟩
      obtain ⟨F, hF⟩ : ∃ F, F = firsts (sss.take k) := ⟨_, rfl⟩
      obtain ⟨L1, hL1⟩ : ∃ L1, L1 = lens (sss.take (k + 1)) := ⟨_, rfl⟩
      obtain ⟨L, hL⟩ : ∃ L, L = lens (sss.take k) := ⟨_, rfl⟩
      rw [← hF1, ← hF] at e1
      rw [← hL1, ← hL] at e2
      rw [← hF, ← hL] at hT
      have H1 := Lib.hid e1
      have H2 := Lib.hid e2
      have H3 := Lib.hid hF1
      have H4 := Lib.hid hL1
      clear hss e1 e2 hF1 hF hL1 hL
      have hw32 : IntKind.u32.wrap (ss.length : Int) = (ss.length : Int) := by rw [IntKind.wrap_u32]; omega
      have hw64 : IntKind.u64.wrap (ss.length : Int) = (ss.length : Int) := IntWalk.u64_in _ (by omega)
      obtain ⟨l, hl⟩ : ∃ l, l = ss.length := ⟨_, rfl⟩
      obtain ⟨s, hs⟩ : ∃ s, s = first ss := ⟨_, rfl⟩
      rw [← hl] at hcell hw32 hw64 hsk hxv
      rw [← hs] at H1
      rw [← hl] at H2
      have hcase : (l = 0 ∧ s = ⟨#[]⟩) ∨ (0 < l ∧ (0 : Int) < (l : Int) ∧ ∃ bx ox, ax = some ⟨bx, ox, none⟩ ∧ wr.cell? ⟨bx, ox, none⟩ = some (.string s)) := by
        cases ss with
        | nil => exact .inl ⟨hl, hs⟩
        | cons s0 rest =>
          refine .inr ⟨by rw [hl]; simp, by rw [hl]; simp, ?_⟩
          obtain ⟨bx, ox, rfl, hrx, _⟩ := hxv.at_ (by rw [hl]; simp)
          refine ⟨bx, ox, rfl, ?_⟩
          rw [hs]
          exact hrx 0 _ rfl
      clear hl hs hv1 hv2 hxv
      rcases hcase with ⟨rfl, rfl⟩ | ⟨hl0, hl0', bx, ox, rfl, hcx⟩
      · go_wp2_with (first
          | (at_builtin; refine wpList_app1 _ rfl (.tmp 32) (.tmp 34) 51 rfl 9 _ 1 16 Tryz.underlying51 Tryz.info9 rfl (by decide) hT.a rfl [.string (⟨#[]⟩ : ByteArray)] rfl rfl rfl (by simp [Value.oneCell']) (by decide) (by omega) ?_; intro aa1 ca1 wa ra ua ia; have hTb : Row wa 53 1 ab k cb (L.map (Value.int .u32)) := hT.b.upd ua (hT.b.apart hT.a (by decide)))
          | (at_builtin; refine wpList_app1 _ rfl (.tmp 36) (.tmp 40) 52 rfl 53 (.int .u32 0) 1 4 Tryz.underlying52 Tryz.info53 rfl (by decide) hTb rfl [.int .u32 (0 : Nat)] rfl rfl rfl (by simp [Value.oneCell']) (by decide) (by omega) ?_; intro ab1 cb1 wb rb ub ib; have hTl0 : Row wa 29 1 al k cl vs' := hT.all.upd ua (hT.all.apart hT.a (by decide)); have hTl1 : Row wb 29 1 al k cl vs' := hTl0.upd ub (hTl0.apart hTb (by decide)); have hTe0 : Row wa 28 4 ae k ce ((L.map endR).flatMap R4.cells) := hT.ends.upd ua (hT.ends.apart hT.a (by decide)); have hTe1 : Row wb 28 4 ae k ce ((L.map endR).flatMap R4.cells) := hTe0.upd ub (hTe0.apart hTb (by decide)))
          | ((with_reducible show wpList _ _ _ _ _ _); refine wpList_bytes rfl 9 29 5 (.tmp 43) rfl Tryz.underlying9 Tryz.underlying29 Tryz.underlying5 (⟨#[]⟩ : ByteArray) rfl ?_; intro cs wt vt ut lt; simp only [Act.put]; have hTl2 : Row wt 29 1 al k cl vs' := hTl1.upd ut (by simp); have hTe2 : Row wt 28 4 ae k ce ((L.map endR).flatMap R4.cells) := hTe1.upd ut (by simp))
          | (at_builtin; refine wpList_app1 _ rfl (.tmp 42) (.tmp 45) 25 rfl 29 (.slice none 0 0) 1 24 Tryz.underlying25 Tryz.info29 rfl (by decide) hTl2 rfl [.slice (some ⟨wb.heap.size, 0, none⟩) (ByteArray.size (⟨#[]⟩ : ByteArray)) cs] rfl rfl rfl (by simp [Value.oneCell']) (by decide) (by omega) ?_; intro al1 cl1 wl rl ul il; have hTe3 : Row wl 28 4 ae k ce ((L.map endR).flatMap R4.cells) := hTe2.upd ul (hTe2.apart hTl2 (by decide)))
          | (at_builtin; refine wpList_app1 _ rfl (.tmp 47) (.tmp 52) 22 rfl 28 _ 4 32 Tryz.underlying22 Tryz.info28 rfl (by decide) hTe3 rfl [.int .u64 (0 : Nat), .int .u64 0, .int .u64 0, .int .u64 0] rfl rfl rfl (by simp [Value.oneCell']) (by decide) (by omega) ?_; intro ae1 ce1 we re ue ie))
        have hnext := hT.next (s := (⟨#[]⟩ : ByteArray)) (x := ((0 : Nat) : Int)) ra ua ia rb ub ib vt ut lt rl ul il (by simpa [endR, R4.cells] using re) ue ie
        have hfin : TupSt w2 we aa1 ab1 al1 ae1 (k + 1) ca1 cb1 cl1 ce1 (vs' ++ [.slice (some ⟨wb.heap.size, 0, none⟩) (ByteArray.size (⟨#[]⟩ : ByteArray)) cs]) F1 L1 := by rw [H1.out, H2.out]; exact hnext
        clear hnext ra ua ia rb ub ib vt ut lt rl ul il re ue ie hTb hTl0 hTl1 hTl2 hTe0 hTe1 hTe2 hTe3 hT
        go_roundw
        case rel => exact ⟨k + 1, aa1, ab1, al1, ae1, ca1, cb1, cl1, ce1, _, by omega, by go_num, rfl, rfl, rfl, rfl, by rw [← H3.out, ← H4.out]; exact hfin⟩
        case measure => simp [intOf]; omega
      · go_wp2_with (first
          | (at_builtin; refine wpList_app1 _ rfl (.tmp 32) (.tmp 34) 51 rfl 9 _ 1 16 Tryz.underlying51 Tryz.info9 rfl (by decide) hT.a rfl [.string s] rfl rfl rfl (by simp [Value.oneCell']) (by decide) (by omega) ?_; intro aa1 ca1 wa ra ua ia; have hTb : Row wa 53 1 ab k cb (L.map (Value.int .u32)) := hT.b.upd ua (hT.b.apart hT.a (by decide)))
          | (at_builtin; refine wpList_app1 _ rfl (.tmp 36) (.tmp 40) 52 rfl 53 (.int .u32 0) 1 4 Tryz.underlying52 Tryz.info53 rfl (by decide) hTb rfl [.int .u32 (l : Nat)] rfl rfl rfl (by simp [Value.oneCell']) (by decide) (by omega) ?_; intro ab1 cb1 wb rb ub ib; have hTl0 : Row wa 29 1 al k cl vs' := hT.all.upd ua (hT.all.apart hT.a (by decide)); have hTl1 : Row wb 29 1 al k cl vs' := hTl0.upd ub (hTl0.apart hTb (by decide)); have hTe0 : Row wa 28 4 ae k ce ((L.map endR).flatMap R4.cells) := hT.ends.upd ua (hT.ends.apart hT.a (by decide)); have hTe1 : Row wb 28 4 ae k ce ((L.map endR).flatMap R4.cells) := hTe0.upd ub (hTe0.apart hTb (by decide)))
          | ((with_reducible show wpList _ _ _ _ _ _); refine wpList_bytes rfl 9 29 5 (.tmp 43) rfl Tryz.underlying9 Tryz.underlying29 Tryz.underlying5 s rfl ?_; intro cs wt vt ut lt; simp only [Act.put]; have hTl2 : Row wt 29 1 al k cl vs' := hTl1.upd ut (by simp); have hTe2 : Row wt 28 4 ae k ce ((L.map endR).flatMap R4.cells) := hTe1.upd ut (by simp))
          | (at_builtin; refine wpList_app1 _ rfl (.tmp 42) (.tmp 45) 25 rfl 29 (.slice none 0 0) 1 24 Tryz.underlying25 Tryz.info29 rfl (by decide) hTl2 rfl [.slice (some ⟨wb.heap.size, 0, none⟩) (ByteArray.size s) cs] rfl rfl rfl (by simp [Value.oneCell']) (by decide) (by omega) ?_; intro al1 cl1 wl rl ul il; have hTe3 : Row wl 28 4 ae k ce ((L.map endR).flatMap R4.cells) := hTe2.upd ul (hTe2.apart hTl2 (by decide)))
          | (at_builtin; refine wpList_app1 _ rfl (.tmp 47) (.tmp 52) 22 rfl 28 _ 4 32 Tryz.underlying22 Tryz.info28 rfl (by decide) hTe3 rfl [.int .u64 (l : Nat), .int .u64 0, .int .u64 0, .int .u64 0] rfl rfl rfl (by simp [Value.oneCell']) (by decide) (by omega) ?_; intro ae1 ce1 we re ue ie))
        have hnext := hT.next (s := s) (x := ((l : Nat) : Int)) ra ua ia rb ub ib vt ut lt rl ul il (by simpa [endR, R4.cells] using re) ue ie
        have hfin : TupSt w2 we aa1 ab1 al1 ae1 (k + 1) ca1 cb1 cl1 ce1 (vs' ++ [.slice (some ⟨wb.heap.size, 0, none⟩) (ByteArray.size s) cs]) F1 L1 := by rw [H1.out, H2.out]; exact hnext
        clear hnext ra ua ia rb ub ib vt ut lt rl ul il re ue ie hTb hTl0 hTl1 hTl2 hTe0 hTe1 hTe2 hTe3 hT
        go_roundw
        case rel => exact ⟨k + 1, aa1, ab1, al1, ae1, ca1, cb1, cl1, ce1, _, by omega, by go_num, rfl, rfl, rfl, rfl, by rw [← H3.out, ← H4.out]; exact hfin⟩
        case measure => simp [intOf]; omega
    · have hk0 : n ≤ k := by omega
      obtain rfl : k = n := by omega
      rw [List.take_of_length_le (by omega)] at hT
      have hU3 := hu12.trans hT.upd (by simp)
      have hr3 := hr2.upd hT.upd (by simp)
      have hS3 := hS2.upd hT.upd
      have hfs : ∀ s ∈ firsts sss, s.size ≤ 60 := fun s hs => by
        obtain ⟨r, hr, rfl⟩ := List.mem_map.1 hs
        exact first_size r (hfew.strs r hr).2
      have hA := fun (w : World) (hr) (hS) => ARStr ar k c vs sss w hr hS hfew
      have hAT := fun (aa ab : Option Addr) (ca cb : Nat) (w : World) (ha) (hb) (hr) (hS) => ARTuple aa ab ar k ca cb c (firsts sss) (lens sss) vs sss w ha hb hr hS hfew hfs
      have hlenA := hfew.len sss.length
      rw [List.take_length] at hlenA
      have htotA := hfew.tot sss.length
      rw [List.take_length] at htotA
      have hshort := hfew.short
      have hbytes : AllBytes (encS (sss.flatten.map byteCells)) := encS_bytes _ (fun t ht => ⟨(hshort t ht).1, by obtain ⟨s, _, rfl⟩ := List.mem_map.1 ht; exact byteCells_all s⟩)
      have hfl : (firsts sss).length = k := by rw [firsts, List.length_map, hlent]
      have hll : (lens sss).length = k := by rw [lens, List.length_map, hlent]
      have hshF : Short ((firsts sss).map byteCells) := fun t ht => by
        obtain ⟨s, hs, rfl⟩ := List.mem_map.1 ht
        have := hfs s hs
        exact ⟨by rw [byteCells_len]; omega, (byteCells_all s).one⟩
      have hbF : AllBytes (encS ((firsts sss).map byteCells)) := encS_bytes _ (fun t ht => ⟨(hshF t ht).1, by obtain ⟨s, _, rfl⟩ := List.mem_map.1 ht; exact byteCells_all s⟩)
      have hNF : (encS ((firsts sss).map byteCells)).length ≤ 20 * 61 := by
        have h1 := encS_len ((firsts sss).map byteCells)
        have h2 := tot_le (firsts sss) 60 hfs
        have h3 := Nat.mul_le_mul_right 60 (show (firsts sss).length ≤ 20 by omega)
        rw [List.length_map] at h1
        omega
      have hNA : (encS (sss.flatten.map byteCells)).length ≤ 20000 := by
        have h1 := encS_len (sss.flatten.map byteCells)
        rw [List.length_map] at h1
        omega
      have hw : ((lens sss).map endR).map (fun r => IntKind.u32.wrap r.a) = lens sss := by
        rw [List.map_map]
        refine (List.map_congr_left (fun x hx => ?_)).trans (List.map_id _)
        obtain ⟨r, hr, rfl⟩ := List.mem_map.1 hx
        have := (hfew.strs r hr).1
        show IntKind.u32.wrap (r.length : Int) = (r.length : Int)
        rw [IntKind.wrap_u32]; omega
      have hl4 : ((lens sss).flatMap (leV 4)).length = k * 4 := by rw [flatMap_len _ 4 (leV_len 4), hll]
      have hl8 : ((endsN sss k).flatMap (leV 8)).length = k * 8 := by rw [flatMap_len _ 8 (leV_len 8), endsN_len]
      obtain ⟨TA, hTA⟩ : ∃ TA, TA = sss.flatten.map byteCells := ⟨_, rfl⟩
      obtain ⟨TF, hTF⟩ : ∃ TF, TF = (firsts sss).map byteCells := ⟨_, rfl⟩
      obtain ⟨EN, hEN⟩ : ∃ EN, EN = endsN sss k := ⟨_, rfl⟩
      obtain ⟨LN, hLN⟩ : ∃ LN, LN = lens sss := ⟨_, rfl⟩
      rw [← hTA] at hA hAT hbytes hNA
      rw [← hTF] at hAT hshF hbF hNF
      rw [← hEN] at hA hAT hl8
      rw [← hLN] at hT hAT hw hll hl4
      have htx := hT.txt
      have hta := hT.a
      have htb := hT.b
      rw [← hTF] at htx
      obtain ⟨NF, hNFe⟩ : ∃ NF, NF = (encS TF).length := ⟨_, rfl⟩
      obtain ⟨NA, hNAe⟩ : ∃ NA, NA = k * 8 + (encS TA).length := ⟨_, rfl⟩
      obtain ⟨NT, hNTe⟩ : ∃ NT, NT = (tupBytes TF LN EN TA 3).length := ⟨_, rfl⟩
      rw [← hNAe] at hA
      rw [← hNTe] at hAT
      have hNAb : NA ≤ 21000 := by omega
      have htb3 : AllBytes (tupBytes TF LN EN TA 3) := AllBytes.tup hbF hbytes
      have hcb : AllBytes (EN.flatMap (leV 8) ++ encS TA) := AllBytes.append (AllBytes.flat (leV_bytes 8) EN) hbytes
      have hcat : [encS TF, LN.flatMap (leV 4), EN.flatMap (leV 8) ++ encS TA].flatMap id = tupBytes TF LN EN TA 3 := by simp [tupBytes]
      have htot3 : tot [encS TF, LN.flatMap (leV 4), EN.flatMap (leV 8) ++ encS TA] ≤ 100000 := by
        simp only [tot, hcat, tupBytes, List.length_append]; omega
      have hNTt : tot [encS TF, LN.flatMap (leV 4), EN.flatMap (leV 8) ++ encS TA] = NT := by
        rw [hNTe]; simp only [tot, hcat]
      have HNF := Lib.hid hNFe
      have HW := Lib.hid hw
      have HC := Lib.hid hcat
      have HT3 := Lib.hid htot3
      have HNT := Lib.hid hNTt
      have HB3 := Lib.hid htb3
      have HCB := Lib.hid hcb
      have hC := fun (ar : Option Addr) (c : Nat) (vs : List Value) (w : World) (hr) (hT) => Concat ar 3 c vs [encS TF, LN.flatMap (leV 4), EN.flatMap (leV 8) ++ encS TA] w hr hT (by omega) (by have := HT3.out; omega)
      rw [HNT.out, HC.out] at hC
      clear hTA hTF hEN hLN hNFe hNAe hNTe hw hcat htot3 hNTt htb3 hcb hNA hlenA htotA hl4 hl8 hNF
      go_wp2_with (first
        | (go_at_call 16; (refine (hA _ hr3 hS3).mono ?_); rintro e w4 ⟨⟨ac, cc, rfl, hRc⟩, hu4⟩)
        | (go_at_call 23; (refine (hAT aa ab ca cb _ (hta.toView.upd hu4 (by simp)) (htb.toView.upd hu4 (by simp)) (hr3.upd hu4 (by simp)) (hS3.upd hu4)).mono ?_); rintro e w5 ⟨⟨aq, cq, rfl, hRt⟩, hu5⟩; have hu45 := hu4.trans hu5 (by simp))
        | (go_at_call 18; (refine (wxText al k cl vs' TF _ (hT.all.toView.upd hu45 (by simp)) ((htx.upd hu45 (by simp)).mono (by simp)) hshF (by omega)).mono ?_); rintro e w6 ⟨a6, c6, rfl, hR6, hu6, hi6⟩; rw [← HNF.out] at hR6 ⊢; have hu46 := hu45.trans hu6 (by simp))
        | (go_at_call 9; (refine (NCEncode_9 ae k ce (LN.map endR) _ (hT.ends.toView.upd hu46 (by simp)) (by omega)).mono ?_); rintro e w7 ⟨a7, c7, rfl, hR7, hu7, hi7⟩; rw [HW.out] at hR7)
        | (go_at_call 24; apply stopHere))
      show Calls _ _ _ _ _
      have hR6' := hR6.upd hu7 (by simp)
      have hRc' := hRc.upd ((hu5.trans hu6 (by simp)).trans hu7 (by simp)) (by simp)
      have ux := (Upd.refl [] w7).alloc (Obj.cells #[.slice a6 NF c6, .slice a7 (k * 4) c7, .slice ac NA cc] 29)
      have h3 := (TextsV.three (c1 := c6) (c2 := c7) (c3 := cc) hR6'.toView hR7.toView hRc'.toView hbF (AllBytes.flat (leV_bytes 4) LN) HCB.out hR6'.lt hR7.lt hRc'.lt).upd ux (by simp)
      have hv3 := View.made w7 [.slice a6 NF c6, .slice a7 (k * 4) c7, .slice ac NA cc] 29 1 3 rfl
      refine (hC _ _ _ _ hv3 h3).mono ?_
      rintro e w8 ⟨a8, c8, rfl, hR8, hu8, hi8⟩
      dsimp only
      have hu58 : Upd [] w5 w8 := ((hu6.trans hu7 (by simp)).trans ux (by simp)).trans hu8 (by simp)
      go_wp2_with (first
        | (go_at_call 10; (refine (bytesEqual aq a8 _ _ _ _ _ _ (hRt.toView.upd hu58 (by simp)) hR8.toView HB3.out).mono ?_); rintro e w9 ⟨rfl, rfl⟩)
        | (go_at_call 12; (refine (ncAwake _).mono ?_); rintro e w10 ⟨rfl, hu10⟩))
      go_ret
      exact ⟨rfl, ((hU3.trans (hu4.trans hu5 (by simp)) (by simp)).trans hu58 (by simp)).trans hu10 (by simp)⟩
end Go.Proofs.YtpehfhdacgjmpaaGreat
