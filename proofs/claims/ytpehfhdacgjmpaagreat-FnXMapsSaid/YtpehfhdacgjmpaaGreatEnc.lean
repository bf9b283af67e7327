/- Columns made, filled and encoded. -/
import Derived.Test.YtpehfhdacgjmpaaGreatTexts
namespace Go.Proofs.YtpehfhdacgjmpaaGreat
open Go Go.RowKit
theorem hold_new (w : World) (T e : TypeId) (size : Nat) : Hold (w.alloc (.cells #[.slice none 0 0] T)) w.heap.size T e size none 0 0 [] := ⟨heap_alloc_new _ _, Row.nil, by simp⟩
set_option maxRecDepth 100000 in
set_option maxHeartbeats 1000000 in
theorem col_8 (w : World) : Calls Tryz.prog 29 #[.int .i64 8] w fun e w' => e = .returned (.iface 193 (num_u16 w.heap.size)) ∧ w' = w.alloc (.cells #[.slice none 0 0] 187) := by
  go_enter Tryz.func29, Tryz.ntmps29
  simp only [num_u16]
  go_wp2
  go_ret
  exact ⟨rfl, rfl⟩
set_option maxRecDepth 100000 in
set_option maxHeartbeats 1000000 in
theorem col_10 (w : World) : Calls Tryz.prog 29 #[.int .i64 10] w fun e w' => e = .returned (.iface 208 (num_u64 w.heap.size)) ∧ w' = w.alloc (.cells #[.slice none 0 0] 202) := by
  go_enter Tryz.func29, Tryz.ntmps29
  simp only [num_u64]
  go_wp2
  go_ret
  exact ⟨rfl, rfl⟩
set_option maxRecDepth 100000 in
set_option maxHeartbeats 1000000 in
theorem col_18 (w : World) : Calls Tryz.prog 79 #[.int .i64 18] w fun e w' => e = .returned (.iface 402 (num_ip w.heap.size)) ∧ w' = w.alloc (.cells #[.slice none 0 0] 393) := by
  go_enter Tryz.func79, Tryz.ntmps79
  simp only [num_ip]
  go_wp2
  go_ret
  exact ⟨rfl, rfl⟩
set_option maxRecDepth 100000 in
set_option maxHeartbeats 1000000 in
theorem colN_18 (w : World) : Calls Tryz.prog 29 #[.int .i64 18] w fun e w' => e = .returned (.iface 402 (num_ip w.heap.size)) ∧ w' = w.alloc (.cells #[.slice none 0 0] 393) := by
  go_enter Tryz.func29, Tryz.ntmps29
  go_wp2_with (go_at_call 79; (with_reducible refine (col_18 _).mono ?_); rintro e w1 ⟨rfl, rfl⟩)
  go_ret
  exact ⟨rfl, rfl⟩
set_option maxRecDepth 100000 in
set_option maxHeartbeats 1000000 in
theorem colT_5 (s : Int) (w : World) : Calls Tryz.prog 31 #[.agg #[.int .i64 5, .int .i64 s]] w fun e w' => e = .returned (.iface 243 (txt_8 (w.heap.size + 1))) ∧ w' = (w.alloc (.cells #[.int .i64 5, .int .i64 s] 24)).alloc (.cells #[.slice none 0 0] 236) := by
  go_enter Tryz.func31, Tryz.ntmps31
  simp only [txt_8]
  go_wp2
  go_ret
  exact ⟨rfl, rfl⟩
set_option maxRecDepth 100000 in
set_option maxHeartbeats 1000000 in
theorem colT_6 (s : Int) (w : World) : Calls Tryz.prog 31 #[.agg #[.int .i64 6, .int .i64 s]] w fun e w' => e = .returned (.iface 253 (txt_16 (w.heap.size + 1))) ∧ w' = (w.alloc (.cells #[.int .i64 6, .int .i64 s] 24)).alloc (.cells #[.slice none 0 0] 246) := by
  go_enter Tryz.func31, Tryz.ntmps31
  simp only [txt_16]
  go_wp2
  go_ret
  exact ⟨rfl, rfl⟩
set_option maxRecDepth 100000 in
set_option maxHeartbeats 1000000 in
theorem colT_4 (s : Int) (w : World) : Calls Tryz.prog 31 #[.agg #[.int .i64 4, .int .i64 s]] w fun e w' => e = .returned (.iface 224 (txt_F (w.heap.size + 1))) ∧ w' = (w.alloc (.cells #[.int .i64 4, .int .i64 s] 24)).alloc (.cells #[.slice none 0 0, .int .i64 s] 233) := by
  go_enter Tryz.func31, Tryz.ntmps31
  simp only [txt_F]
  go_wp2
  go_ret
  exact ⟨rfl, rfl⟩


/-! ### EncodeColumn by its method value -/
theorem methE1_u16 (k p : Nat) (w : World) : (method (k + 1) 193 (num_u16 p) "EncodeColumn").run Tryz.prog w = (method k 185 (.pointer (some ⟨p, 0, none⟩)) "EncodeColumn").run Tryz.prog w := by kernel_rfl
theorem methE2_u16 (k p : Nat) (w : World) : (method (k + 1) 185 (.pointer (some ⟨p, 0, none⟩)) "EncodeColumn").run Tryz.prog w = (do let v ← receiverAt 185 (.val (.pointer (some ⟨p, 0, none⟩))) false (some "EncodeColumn"); pure (315, v) : Sem (FuncId × Value)).run Tryz.prog w := by kernel_rfl
theorem methE3_u16 (p : Nat) (w : World) : (receiverAt 185 (.val (.pointer (some ⟨p, 0, none⟩))) false (some "EncodeColumn")).run Tryz.prog w = (loadVar 187 ⟨p, 0, none⟩).run Tryz.prog w := by kernel_rfl
theorem methE_u16 (p : Nat) (w : World) (v : Value) (h : (loadVar 187 ⟨p, 0, none⟩).run Tryz.prog w = .ok v w) : (method 706 193 (num_u16 p) "EncodeColumn").run Tryz.prog w = .ok (315, v) w := by
  rw [show 706 = (706 - 2) + 1 + 1 from rfl, methE1_u16, methE2_u16]
  simp only [Sem.run_bind, methE3_u16, h, Result.andThen_ok, Sem.run_pure]
theorem methE1_u64 (k p : Nat) (w : World) : (method (k + 1) 208 (num_u64 p) "EncodeColumn").run Tryz.prog w = (method k 200 (.pointer (some ⟨p, 0, none⟩)) "EncodeColumn").run Tryz.prog w := by kernel_rfl
theorem methE2_u64 (k p : Nat) (w : World) : (method (k + 1) 200 (.pointer (some ⟨p, 0, none⟩)) "EncodeColumn").run Tryz.prog w = (do let v ← receiverAt 200 (.val (.pointer (some ⟨p, 0, none⟩))) false (some "EncodeColumn"); pure (160, v) : Sem (FuncId × Value)).run Tryz.prog w := by kernel_rfl
theorem methE3_u64 (p : Nat) (w : World) : (receiverAt 200 (.val (.pointer (some ⟨p, 0, none⟩))) false (some "EncodeColumn")).run Tryz.prog w = (loadVar 202 ⟨p, 0, none⟩).run Tryz.prog w := by kernel_rfl
theorem methE_u64 (p : Nat) (w : World) (v : Value) (h : (loadVar 202 ⟨p, 0, none⟩).run Tryz.prog w = .ok v w) : (method 706 208 (num_u64 p) "EncodeColumn").run Tryz.prog w = .ok (160, v) w := by
  rw [show 706 = (706 - 2) + 1 + 1 from rfl, methE1_u64, methE2_u64]
  simp only [Sem.run_bind, methE3_u64, h, Result.andThen_ok, Sem.run_pure]
theorem methE1_ip (k p : Nat) (w : World) : (method (k + 1) 402 (num_ip p) "EncodeColumn").run Tryz.prog w = (method k 391 (.pointer (some ⟨p, 0, none⟩)) "EncodeColumn").run Tryz.prog w := by kernel_rfl
theorem methE2_ip (k p : Nat) (w : World) : (method (k + 1) 391 (.pointer (some ⟨p, 0, none⟩)) "EncodeColumn").run Tryz.prog w = (do let v ← receiverAt 391 (.val (.pointer (some ⟨p, 0, none⟩))) false (some "EncodeColumn"); pure (554, v) : Sem (FuncId × Value)).run Tryz.prog w := by kernel_rfl
theorem methE3_ip (p : Nat) (w : World) : (receiverAt 391 (.val (.pointer (some ⟨p, 0, none⟩))) false (some "EncodeColumn")).run Tryz.prog w = (loadVar 393 ⟨p, 0, none⟩).run Tryz.prog w := by kernel_rfl
theorem methE_ip (p : Nat) (w : World) (v : Value) (h : (loadVar 393 ⟨p, 0, none⟩).run Tryz.prog w = .ok v w) : (method 706 402 (num_ip p) "EncodeColumn").run Tryz.prog w = .ok (554, v) w := by
  rw [show 706 = (706 - 2) + 1 + 1 from rfl, methE1_ip, methE2_ip]
  simp only [Sem.run_bind, methE3_ip, h, Result.andThen_ok, Sem.run_pure]
theorem methE1_t8 (k p : Nat) (w : World) : (method (k + 1) 243 (txt_8 p) "EncodeColumn").run Tryz.prog w = (method k 234 (.pointer (some ⟨p, 0, none⟩)) "EncodeColumn").run Tryz.prog w := by kernel_rfl
theorem methE2_t8 (k p : Nat) (w : World) : (method (k + 1) 234 (.pointer (some ⟨p, 0, none⟩)) "EncodeColumn").run Tryz.prog w = (do let v ← receiverAt 234 (.val (.pointer (some ⟨p, 0, none⟩))) false (some "EncodeColumn"); pure (375, v) : Sem (FuncId × Value)).run Tryz.prog w := by kernel_rfl
theorem methE3_t8 (p : Nat) (w : World) : (receiverAt 234 (.val (.pointer (some ⟨p, 0, none⟩))) false (some "EncodeColumn")).run Tryz.prog w = (loadVar 236 ⟨p, 0, none⟩).run Tryz.prog w := by kernel_rfl
theorem methE_t8 (p : Nat) (w : World) (v : Value) (h : (loadVar 236 ⟨p, 0, none⟩).run Tryz.prog w = .ok v w) : (method 706 243 (txt_8 p) "EncodeColumn").run Tryz.prog w = .ok (375, v) w := by
  rw [show 706 = (706 - 2) + 1 + 1 from rfl, methE1_t8, methE2_t8]
  simp only [Sem.run_bind, methE3_t8, h, Result.andThen_ok, Sem.run_pure]
theorem methE1_t16 (k p : Nat) (w : World) : (method (k + 1) 253 (txt_16 p) "EncodeColumn").run Tryz.prog w = (method k 244 (.pointer (some ⟨p, 0, none⟩)) "EncodeColumn").run Tryz.prog w := by kernel_rfl
theorem methE2_t16 (k p : Nat) (w : World) : (method (k + 1) 244 (.pointer (some ⟨p, 0, none⟩)) "EncodeColumn").run Tryz.prog w = (do let v ← receiverAt 244 (.val (.pointer (some ⟨p, 0, none⟩))) false (some "EncodeColumn"); pure (388, v) : Sem (FuncId × Value)).run Tryz.prog w := by kernel_rfl
theorem methE3_t16 (p : Nat) (w : World) : (receiverAt 244 (.val (.pointer (some ⟨p, 0, none⟩))) false (some "EncodeColumn")).run Tryz.prog w = (loadVar 246 ⟨p, 0, none⟩).run Tryz.prog w := by kernel_rfl
theorem methE_t16 (p : Nat) (w : World) (v : Value) (h : (loadVar 246 ⟨p, 0, none⟩).run Tryz.prog w = .ok v w) : (method 706 253 (txt_16 p) "EncodeColumn").run Tryz.prog w = .ok (388, v) w := by
  rw [show 706 = (706 - 2) + 1 + 1 from rfl, methE1_t16, methE2_t16]
  simp only [Sem.run_bind, methE3_t16, h, Result.andThen_ok, Sem.run_pure]
theorem methE1_tF (k p : Nat) (w : World) : (method (k + 1) 224 (txt_F p) "EncodeColumn").run Tryz.prog w = (method k 231 (.pointer (some ⟨p, 0, none⟩)) "EncodeColumn").run Tryz.prog w := by kernel_rfl
theorem methE2_tF (k p : Nat) (w : World) : (method (k + 1) 231 (.pointer (some ⟨p, 0, none⟩)) "EncodeColumn").run Tryz.prog w = (do let v ← receiverAt 231 (.val (.pointer (some ⟨p, 0, none⟩))) false (some "EncodeColumn"); pure (366, v) : Sem (FuncId × Value)).run Tryz.prog w := by kernel_rfl
theorem methE3_tF (p : Nat) (w : World) : (receiverAt 231 (.val (.pointer (some ⟨p, 0, none⟩))) false (some "EncodeColumn")).run Tryz.prog w = (loadVar 233 ⟨p, 0, none⟩).run Tryz.prog w := by kernel_rfl
theorem methE_tF (p : Nat) (w : World) (v : Value) (h : (loadVar 233 ⟨p, 0, none⟩).run Tryz.prog w = .ok v w) : (method 706 224 (txt_F p) "EncodeColumn").run Tryz.prog w = .ok (366, v) w := by
  rw [show 706 = (706 - 2) + 1 + 1 from rfl, methE1_tF, methE2_tF]
  simp only [Sem.run_bind, methE3_tF, h, Result.andThen_ok, Sem.run_pure]
theorem loadC_u16 (p : Nat) (w : World) (v : Value) (h : w.cell? ⟨p, 0, none⟩ = some v) : (loadVar 187 ⟨p, 0, none⟩).run Tryz.prog w = .ok v w := by go_simp
theorem loadC_u64 (p : Nat) (w : World) (v : Value) (h : w.cell? ⟨p, 0, none⟩ = some v) : (loadVar 202 ⟨p, 0, none⟩).run Tryz.prog w = .ok v w := by go_simp
theorem loadC_ip (p : Nat) (w : World) (v : Value) (h : w.cell? ⟨p, 0, none⟩ = some v) : (loadVar 393 ⟨p, 0, none⟩).run Tryz.prog w = .ok v w := by go_simp
theorem loadC_t8 (p : Nat) (w : World) (v : Value) (h : w.cell? ⟨p, 0, none⟩ = some v) : (loadVar 236 ⟨p, 0, none⟩).run Tryz.prog w = .ok v w := by go_simp
theorem loadC_t16 (p : Nat) (w : World) (v : Value) (h : w.cell? ⟨p, 0, none⟩ = some v) : (loadVar 246 ⟨p, 0, none⟩).run Tryz.prog w = .ok v w := by go_simp
theorem loadC_tF (p : Nat) (w : World) (u v : Value) (h : w.cell? ⟨p, 0, none⟩ = some u) (h' : w.cell? ⟨p, 0 + 1, none⟩ = some v) : (loadVar 233 ⟨p, 0, none⟩).run Tryz.prog w = .ok (.agg #[u, v]) w := by
  go_simp
  done
theorem newBuf (w : World) : Hold (w.alloc (.cells #[.slice none 0 0] 210)) w.heap.size 210 5 1 none 0 0 [] := hold_new _ _ _ _


/-- new bytes, of a slice of their own -/
def Made (w : World) (n : Nat) (bs : List Value) (e : Ending) (w' : World) : Prop :=
  ∃ ao' c', e = .returned (.slice ao' n c') ∧ Row w' 5 1 ao' n c' bs ∧ Upd [] w w' ∧ In [] w.heap.size ao'
theorem Made.from {w w1 : World} {n : Nat} {bs : List Value} {e : Ending} {w' : World} (h : Made w1 n bs e w') (hu : Upd [] w w1) : Made w n bs e w' := by
  obtain ⟨ao', c', h1, h2, h3, h4⟩ := h
  exact ⟨ao', c', h1, h2, hu.trans h3 (fun _ h => .inl h), h4.le hu.size⟩
theorem Made.of {w w2 : World} {n c2 : Nat} {bs : List Value} {ao2 : Option Addr} {v : Value} (hv : v = .slice ao2 n c2) (hH2 : Hold w2 w.heap.size 210 5 1 ao2 (0 + n) c2 ([] ++ bs))
    (hU2 : Upd (w.heap.size :: bk none) (w.alloc (Obj.cells #[Value.slice none 0 0] 210)) w2) (hI2 : In (bk none) (w.alloc (Obj.cells #[Value.slice none 0 0] 210)).heap.size ao2) : Made w n bs (.returned v) w2 := by
  subst hv
  rw [Nat.zero_add, List.nil_append] at hH2
  refine ⟨ao2, c2, rfl, hH2.own, ((Upd.refl [] w).alloc _).trans hU2 (fun y hy => .inr ?_), ?_⟩
  · simp at hy; omega
  · exact hI2.le (by simp)

set_option maxRecDepth 100000 in
set_option maxHeartbeats 1000000 in
theorem enc_u16 (p : Nat) (ao : Option Addr) (n c : Nat) (vs : List Int)  (w : World) (h : Hold w p 187 128 1 ao n c (vs.map (Value.int .u16))) (hn : n ≤ 100000) :
    Calls Tryz.prog 30 #[.func (Fn.method "EncodeColumn") #[.iface 193 (num_u16 p)] #[]] w (Made w (n * 2) (vs.flatMap (leV 2))) := by
  go_enter Tryz.func30, Tryz.ntmps30
  have hB := newBuf w
  have u1 := (Upd.refl [] w).alloc (Obj.cells #[.slice none 0 0] 210)
  have hh := h.kept u1 (by simp) (by simp)
  have hm := methE_u16 p _ _ (loadC_u16 p _ _ hh.cell)
  have hlt := h.lt
  have hbl := h.own.lt
  have hap : Apart ao w.heap.size none := fun x hx => ⟨by have := hbl x hx; omega, by simp⟩
  go_wp2_with (go_at_call 315; (refine (ColUInt16_EncodeColumn _ _ _ vs _ _ _ _ _ _ hh.own.toView hB hap hh.own.lt (by omega) (by omega)).mono ?_); rintro e w2 ⟨rfl, ao2, c2, hH2, hU2, hI2⟩; have hc2 := hH2.cell)
  go_ret
  exact Made.of (by simp) hH2 hU2 hI2
set_option maxRecDepth 100000 in
set_option maxHeartbeats 1000000 in
theorem enc_u64 (p : Nat) (ao : Option Addr) (n c : Nat) (vs : List Int)  (w : World) (h : Hold w p 202 26 1 ao n c (vs.map (Value.int .u64))) (hn : n ≤ 100000) :
    Calls Tryz.prog 30 #[.func (Fn.method "EncodeColumn") #[.iface 208 (num_u64 p)] #[]] w (Made w (n * 8) (vs.flatMap (leV 8))) := by
  go_enter Tryz.func30, Tryz.ntmps30
  have hB := newBuf w
  have u1 := (Upd.refl [] w).alloc (Obj.cells #[.slice none 0 0] 210)
  have hh := h.kept u1 (by simp) (by simp)
  have hm := methE_u64 p _ _ (loadC_u64 p _ _ hh.cell)
  have hlt := h.lt
  have hbl := h.own.lt
  have hap : Apart ao w.heap.size none := fun x hx => ⟨by have := hbl x hx; omega, by simp⟩
  go_wp2_with (go_at_call 160; (refine (ColUInt64_EncodeColumn _ _ _ vs _ _ _ _ _ _ hh.own.toView hB hap hh.own.lt (by omega) (by omega)).mono ?_); rintro e w2 ⟨rfl, ao2, c2, hH2, hU2, hI2⟩; have hc2 := hH2.cell)
  go_ret
  exact Made.of (by simp) hH2 hU2 hI2
set_option maxRecDepth 100000 in
set_option maxHeartbeats 1000000 in
theorem enc_ip (p : Nat) (ao : Option Addr) (n c : Nat) (vs : List (List Value)) (hvs : Arrs 16 vs) (w : World) (h : Hold w p 393 394 16 ao n c (vs.flatMap id)) (hn : n ≤ 100000) :
    Calls Tryz.prog 30 #[.func (Fn.method "EncodeColumn") #[.iface 402 (num_ip p)] #[]] w (Made w (n * 16) (vs.flatMap id)) := by
  go_enter Tryz.func30, Tryz.ntmps30
  have hB := newBuf w
  have u1 := (Upd.refl [] w).alloc (Obj.cells #[.slice none 0 0] 210)
  have hh := h.kept u1 (by simp) (by simp)
  have hm := methE_ip p _ _ (loadC_ip p _ _ hh.cell)
  have hlt := h.lt
  have hbl := h.own.lt
  have hap : Apart ao w.heap.size none := fun x hx => ⟨by have := hbl x hx; omega, by simp⟩
  go_wp2_with (go_at_call 554; (refine (ColIPv6_EncodeColumn _ _ _ vs hvs _ _ _ _ _ _ hh.own.toView hB hap  (by omega) (by omega)).mono ?_); rintro e w2 ⟨rfl, ao2, c2, hH2, hU2, hI2⟩; have hc2 := hH2.cell)
  go_ret
  exact Made.of (by simp) hH2 hU2 hI2
set_option maxRecDepth 100000 in
set_option maxHeartbeats 1000000 in
theorem enc_t8 (p : Nat) (ao : Option Addr) (n c : Nat) (vs : List (List Value)) (hvs : Arrs 8 vs) (w : World) (h : Hold w p 236 237 8 ao n c (vs.flatMap id)) (hn : n ≤ 100000) :
    Calls Tryz.prog 30 #[.func (Fn.method "EncodeColumn") #[.iface 243 (txt_8 p)] #[]] w (Made w (n * 8) (vs.flatMap id)) := by
  go_enter Tryz.func30, Tryz.ntmps30
  have hB := newBuf w
  have u1 := (Upd.refl [] w).alloc (Obj.cells #[.slice none 0 0] 210)
  have hh := h.kept u1 (by simp) (by simp)
  have hm := methE_t8 p _ _ (loadC_t8 p _ _ hh.cell)
  have hlt := h.lt
  have hbl := h.own.lt
  have hap : Apart ao w.heap.size none := fun x hx => ⟨by have := hbl x hx; omega, by simp⟩
  go_wp2_with (go_at_call 375; (refine (ColFixedStr8_EncodeColumn _ _ _ vs hvs _ _ _ _ _ _ hh.own.toView hB hap  (by omega) (by omega)).mono ?_); rintro e w2 ⟨rfl, ao2, c2, hH2, hU2, hI2⟩; have hc2 := hH2.cell)
  go_ret
  exact Made.of (by simp) hH2 hU2 hI2
set_option maxRecDepth 100000 in
set_option maxHeartbeats 1000000 in
theorem enc_t16 (p : Nat) (ao : Option Addr) (n c : Nat) (vs : List (List Value)) (hvs : Arrs 16 vs) (w : World) (h : Hold w p 246 247 16 ao n c (vs.flatMap id)) (hn : n ≤ 100000) :
    Calls Tryz.prog 30 #[.func (Fn.method "EncodeColumn") #[.iface 253 (txt_16 p)] #[]] w (Made w (n * 16) (vs.flatMap id)) := by
  go_enter Tryz.func30, Tryz.ntmps30
  have hB := newBuf w
  have u1 := (Upd.refl [] w).alloc (Obj.cells #[.slice none 0 0] 210)
  have hh := h.kept u1 (by simp) (by simp)
  have hm := methE_t16 p _ _ (loadC_t16 p _ _ hh.cell)
  have hlt := h.lt
  have hbl := h.own.lt
  have hap : Apart ao w.heap.size none := fun x hx => ⟨by have := hbl x hx; omega, by simp⟩
  go_wp2_with (go_at_call 388; (refine (ColFixedStr16_EncodeColumn _ _ _ vs hvs _ _ _ _ _ _ hh.own.toView hB hap  (by omega) (by omega)).mono ?_); rintro e w2 ⟨rfl, ao2, c2, hH2, hU2, hI2⟩; have hc2 := hH2.cell)
  go_ret
  exact Made.of (by simp) hH2 hU2 hI2
set_option maxRecDepth 100000 in
set_option maxHeartbeats 1000000 in
theorem enc_tF (p S : Nat) (ao : Option Addr) (n c : Nat) (xs : List Value) (hx1 : ∀ u ∈ xs, u.oneCell' = true) (w : World) (h : HoldT w p 233 5 [.int .i64 S] 1 ao n c xs) (hn : n ≤ 100000) :
    Calls Tryz.prog 30 #[.func (Fn.method "EncodeColumn") #[.iface 224 (txt_F p)] #[]] w (Made w n xs) := by
  go_enter Tryz.func30, Tryz.ntmps30
  have hB := newBuf w
  have u1 := (Upd.refl [] w).alloc (Obj.cells #[.slice none 0 0] 210)
  have hh := h.kept u1 (by simp) (by simp)
  have hm := methE_tF p _ _ (loadC_tF p _ _ _ hh.cell (hh.cellN 0 (v := .int .i64 S) rfl))
  have hlt := h.lt
  have hbl := h.own.lt
  go_wp2_with (go_at_call 366; (refine (ColFixedStr_EncodeColumn _ _ _ _ _ _ _ _ _ _ _ hh.own.toView hx1 hB hh.own.lt (by omega) (by omega)).mono ?_); rintro e w2 ⟨rfl, ao2, c2, hH2, hU2, hI2⟩; have hc2 := hH2.cell)
  go_ret
  exact Made.of (by simp) hH2 hU2 hI2
end Go.Proofs.YtpehfhdacgjmpaaGreat
