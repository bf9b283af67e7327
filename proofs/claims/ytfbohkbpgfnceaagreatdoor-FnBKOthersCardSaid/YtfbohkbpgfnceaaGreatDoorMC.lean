/- Columns of two or four words a row: Int128, UInt128, Int256, UInt256. -/
import Derived.Test.YtfbohkbpgfnceaaGreatDoorMB
import Derived.Test.YtfbohkbpgfnceaaGreatDoorDrawn3
namespace Go.Proofs.YtfbohkbpgfnceaaGreatDoor
set_option linter.unusedVariables false
set_option linter.unusedSimpArgs false
open Go Go.RowKit
theorem putAt_two {xs A B : List Value} {o k : Nat} (hk : A.length = k) (h : o + k + B.length ≤ xs.length) : putAt (putAt xs (o + k) B) o A = putAt xs o (A ++ B) := by
  subst hk
  unfold putAt
  have h1 : (xs.take (o + A.length) ++ B ++ xs.drop (o + A.length + B.length)).take o = xs.take o := by
    rw [List.append_assoc, List.take_append_of_le_length (by simp; omega), List.take_take]
    congr 1
    omega
  have h2 : (xs.take (o + A.length) ++ B ++ xs.drop (o + A.length + B.length)).drop (o + A.length) = B ++ xs.drop (o + A.length + B.length) := by
    rw [List.append_assoc, List.drop_append_of_le_length (by simp; omega), List.drop_of_length_le (by simp; omega), List.nil_append]
  rw [h1, h2]
  simp [List.append_assoc, Nat.add_assoc]
def wcell (ws : List Int) : List Value := ws.map (Value.int .u64)
def wbyte (ws : List Int) : List Value := ws.flatMap (leV 8)
theorem wcell_one (ws : List Int) : ∀ u ∈ wcell ws, u.oneCell' = true := by
  intro u hu
  obtain ⟨x, _, rfl⟩ := List.mem_map.1 hu
  rfl
theorem wbyte_bytes (ws : List Int) : AllBytes (wbyte ws) := AllBytes.flat (leV_bytes 8) ws
/-- each of W words -/
def Words (W : Nat) (vs : List (List Int)) : Prop := ∀ v ∈ vs, v.length = W ∧ ∀ x ∈ v, 0 ≤ x ∧ x < 18446744073709551616
theorem flatMap_len' {α β : Type} (f : α → List β) (m : Nat) (l : List α) (hf : ∀ a ∈ l, (f a).length = m) : (l.flatMap f).length = l.length * m := by
  induction l with
  | nil => simp
  | cons a l ih =>
    simp only [List.flatMap_cons, List.length_append, List.length_cons]
    rw [hf a (by simp), ih (fun b hb => hf b (by simp [hb])), Nat.succ_mul]
    omega
theorem Words.cells {W : Nat} {vs : List (List Int)} (h : Words W vs) : ∀ v ∈ vs, (wcell v).length = W := fun v hv => by rw [wcell, List.length_map]; exact (h v hv).1
theorem Words.bytes {W : Nat} {vs : List (List Int)} (h : Words W vs) : ∀ v ∈ vs, (wbyte v).length = W * 8 := fun v hv => by rw [wbyte, flatMap_len _ 8 (leV_len 8), (h v hv).1]
theorem len2 {ws : List Int} (h : ws.length = 2) : ∃ a b, ws = [a, b] := by
  match ws, h with
  | [a, b], _ => exact ⟨a, b, rfl⟩
theorem len4 {ws : List Int} (h : ws.length = 4) : ∃ a b c d, ws = [a, b, c, d] := by
  match ws, h with
  | [a, b, c, d], _ => exact ⟨a, b, c, d, rfl⟩
set_option maxRecDepth 100000 in
set_option maxHeartbeats 1000000 in
theorem put128 (g off n cp N C : Nat) (xs : List Value) (a b : Int) (w : World) (h : Row w 5 1 (some ⟨g, 0, none⟩) N C xs) (ho : off + 16 ≤ N) (hn : 16 ≤ n) (hcp : n ≤ cp) :
    Calls Tryz.prog 255 #[.slice (some ⟨g, off, none⟩) n cp, .agg #[.int .u64 a, .int .u64 b]] w fun e w' => e = .returned (.tuple #[]) ∧ Row w' 5 1 (some ⟨g, 0, none⟩) N C (putAt xs off (wbyte [a, b])) ∧ Upd [g] w w' := by
  have hl := h.len
  have hgl := h.lt g (by simp)
  go_enter Tryz.func255, Tryz.ntmps255
  obtain ⟨k1, u1, s1⟩ := alloc_facts w (Obj.cells #[.int .u64 a, .int .u64 b] 143)
  have p0 : (w.alloc (Obj.cells #[.int .u64 a, .int .u64 b] 143)).cell? ⟨w.heap.size, 0, none⟩ = some (.int .u64 a) := (cellAt k1 0).trans rfl
  have p1 : (w.alloc (Obj.cells #[.int .u64 a, .int .u64 b] 143)).cell? ⟨w.heap.size, 1, none⟩ = some (.int .u64 b) := (cellAt k1 1).trans rfl
  have hR := h.upd u1 (by simp)
  go_wp2
  generalize w.alloc (Obj.cells #[.int .u64 a, .int .u64 b] 143) = W at *
  refine wp_region_split (S := Upd [] W) [(true, 0), (true, 1), (true, 2), (true, 3), (true, 4)] [] [5] (by kernel_rfl) (by kernel_rfl) (fun _ _ d _ _ h => by cases d <;> exact h) ((Upd.refl _ _).drew) ?_
  simp only [readsAt, opersAt, Option.map_some, List.filterMap_cons, List.filterMap_nil, List.getElem?_toArray, List.getElem?_cons_succ, List.getElem?_cons_zero]
  iterate 2 (refine ⟨_, Or.inl ⟨by rfl, fun w' hS => by first | (have e1 := Upd.cell1 hS p1 (by simp); first | (go_simp; done) | (go_simp; with_reducible rfl)) | (go_simp; done) | (go_simp; with_reducible rfl)⟩, ?_⟩; simp only [Act.put, List.setIfInBounds_toArray, List.set_cons_zero, List.set_cons_succ])
  refine ⟨_, yields_slice rfl 26 5 1 _ _ _ rfl Tryz.underlying26 (by kernel_rfl) g off n cp rfl _ _ 8 16 rfl rfl (by decide) (by decide) (by decide) (by omega) (by omega) (off + 8) 8 (cp - 8) rfl rfl rfl, ?_⟩
  simp only [Act.put, List.setIfInBounds_toArray, List.set_cons_zero, List.set_cons_succ]
  iterate 2 (refine ⟨_, Or.inl ⟨by rfl, fun w' hS => by first | (have e1 := Upd.cell1 hS p1 (by simp); first | (go_simp; done) | (go_simp; with_reducible rfl)) | (go_simp; done) | (go_simp; with_reducible rfl)⟩, ?_⟩; simp only [Act.put, List.setIfInBounds_toArray, List.set_cons_zero, List.set_cons_succ])
  simp only [readsThen, preThen]
  change wpList _ _ _ [_] _ _
  go_wp2_with (go_at_call 242; (refine (PutUint64 g (off + 8) 8 _ N C xs b _ (World.ownsRow.drew hR) (by omega) (by omega)).mono ?_); rintro e w2 ⟨rfl, hR2, hu2⟩)
  have p2 := hu2.ofDrew.cell1 p0 (by simp; omega)
  refine wp_region_split (S := Upd [] w2) [(true, 0), (true, 1), (true, 2), (true, 3), (true, 4)] [] [5] (by kernel_rfl) (by kernel_rfl) (fun _ _ d _ _ h => by cases d <;> exact h) ((Upd.refl _ _).drew) ?_
  simp only [readsAt, opersAt, Option.map_some, List.filterMap_cons, List.filterMap_nil, List.getElem?_toArray, List.getElem?_cons_succ, List.getElem?_cons_zero]
  iterate 2 (refine ⟨_, Or.inl ⟨by rfl, fun w' hS => by first | (have e1 := Upd.cell1 hS p2 (by simp); first | (go_simp; done) | (go_simp; with_reducible rfl)) | (go_simp; done) | (go_simp; with_reducible rfl)⟩, ?_⟩; simp only [Act.put, List.setIfInBounds_toArray, List.set_cons_zero, List.set_cons_succ])
  refine ⟨_, yields_slice rfl 26 5 1 _ _ _ rfl Tryz.underlying26 (by kernel_rfl) g off n cp rfl _ _ 0 8 rfl rfl (by decide) (by decide) (by decide) (by omega) (by omega) off 8 cp rfl rfl rfl, ?_⟩
  simp only [Act.put, List.setIfInBounds_toArray, List.set_cons_zero, List.set_cons_succ]
  iterate 2 (refine ⟨_, Or.inl ⟨by rfl, fun w' hS => by first | (have e1 := Upd.cell1 hS p2 (by simp); first | (go_simp; done) | (go_simp; with_reducible rfl)) | (go_simp; done) | (go_simp; with_reducible rfl)⟩, ?_⟩; simp only [Act.put, List.setIfInBounds_toArray, List.set_cons_zero, List.set_cons_succ])
  simp only [readsThen, preThen]
  change wpList _ _ _ [_] _ _
  go_wp2_with (go_at_call 242; (refine (PutUint64 g off 8 _ N C _ a _ (World.ownsRow.drew hR2) (by omega) (by omega)).mono ?_); rintro e w3 ⟨rfl, hR3, hu3⟩)
  go_end0
  rw [putAt_two (leV_len 8 a) (by rw [leV_len]; omega)] at hR3
  refine ⟨rfl, by simpa [wbyte] using hR3, ?_⟩
  exact ((u1.mono (by simp)).trans hu2.ofDrew (fun _ h => .inl h)).trans hu3.ofDrew (fun _ h => .inl h)
set_option maxRecDepth 100000 in
set_option maxHeartbeats 2000000 in
theorem put256 (g off n cp N C : Nat) (xs : List Value) (a b c d : Int) (w : World) (h : Row w 5 1 (some ⟨g, 0, none⟩) N C xs) (ho : off + 32 ≤ N) (hn : 32 ≤ n) (hcp : n ≤ cp) :
    Calls Tryz.prog 270 #[.slice (some ⟨g, off, none⟩) n cp, .agg #[.int .u64 a, .int .u64 b, .int .u64 c, .int .u64 d]] w fun e w' => e = .returned (.tuple #[]) ∧ Row w' 5 1 (some ⟨g, 0, none⟩) N C (putAt xs off (wbyte [a, b, c, d])) ∧ Upd [g] w w' := by
  have hl := h.len
  have hgl := h.lt g (by simp)
  go_enter Tryz.func270, Tryz.ntmps270
  obtain ⟨k1, u1, s1⟩ := alloc_facts w (Obj.cells #[.int .u64 a, .int .u64 b, .int .u64 c, .int .u64 d] 244)
  have p0 : (w.alloc (Obj.cells #[.int .u64 a, .int .u64 b, .int .u64 c, .int .u64 d] 244)).cell? ⟨w.heap.size, 0, none⟩ = some (.int .u64 a) := (cellAt k1 0).trans rfl
  have p1 : (w.alloc (Obj.cells #[.int .u64 a, .int .u64 b, .int .u64 c, .int .u64 d] 244)).cell? ⟨w.heap.size, 1, none⟩ = some (.int .u64 b) := (cellAt k1 1).trans rfl
  have p2 : (w.alloc (Obj.cells #[.int .u64 a, .int .u64 b, .int .u64 c, .int .u64 d] 244)).cell? ⟨w.heap.size, 2, none⟩ = some (.int .u64 c) := (cellAt k1 2).trans rfl
  have p3 : (w.alloc (Obj.cells #[.int .u64 a, .int .u64 b, .int .u64 c, .int .u64 d] 244)).cell? ⟨w.heap.size, 3, none⟩ = some (.int .u64 d) := (cellAt k1 3).trans rfl
  have hR := h.upd u1 (by simp)
  go_wp2
  generalize w.alloc (Obj.cells #[.int .u64 a, .int .u64 b, .int .u64 c, .int .u64 d] 244) = W at *
  refine wp_region_split (S := Upd [] W) [(true, 0), (true, 1), (true, 2), (true, 3), (true, 4), (true, 5)] [] [6] (by kernel_rfl) (by kernel_rfl) (fun _ _ d _ _ h => by cases d <;> exact h) ((Upd.refl _ _).drew) ?_
  simp only [readsAt, opersAt, Option.map_some, List.filterMap_cons, List.filterMap_nil, List.getElem?_toArray, List.getElem?_cons_succ, List.getElem?_cons_zero]
  iterate 2 (refine ⟨_, Or.inl ⟨by rfl, fun w' hS => by first | (have e1 := Upd.cell1 hS p3 (by simp); first | (go_simp; done) | (go_simp; with_reducible rfl)) | (go_simp; done) | (go_simp; with_reducible rfl)⟩, ?_⟩; simp only [Act.put, List.setIfInBounds_toArray, List.set_cons_zero, List.set_cons_succ])
  refine ⟨_, yields_slice rfl 26 5 1 _ _ _ rfl Tryz.underlying26 (by kernel_rfl) g off n cp rfl _ _ 24 32 rfl rfl (by decide) (by decide) (by decide) (by omega) (by omega) (off + 24) 8 (cp - 24) rfl rfl rfl, ?_⟩
  simp only [Act.put, List.setIfInBounds_toArray, List.set_cons_zero, List.set_cons_succ]
  iterate 3 (refine ⟨_, Or.inl ⟨by rfl, fun w' hS => by first | (have e1 := Upd.cell1 hS p3 (by simp); first | (go_simp; done) | (go_simp; with_reducible rfl)) | (go_simp; done) | (go_simp; with_reducible rfl)⟩, ?_⟩; simp only [Act.put, List.setIfInBounds_toArray, List.set_cons_zero, List.set_cons_succ])
  simp only [readsThen, preThen]
  change wpList _ _ _ [_] _ _
  go_wp2_with (go_at_call 242; (refine (PutUint64 g (off + 24) 8 _ N C xs d _ (World.ownsRow.drew hR) (by omega) (by omega)).mono ?_); rintro e w2 ⟨rfl, hR2, hu2⟩)
  have q2 := hu2.ofDrew.cell1 p2 (by simp; omega)
  have q1 := hu2.ofDrew.cell1 p1 (by simp; omega)
  have q0 := hu2.ofDrew.cell1 p0 (by simp; omega)
  refine wp_region_split (S := Upd [] w2) [(true, 0), (true, 1), (true, 2), (true, 3), (true, 4), (true, 5)] [] [6] (by kernel_rfl) (by kernel_rfl) (fun _ _ d _ _ h => by cases d <;> exact h) ((Upd.refl _ _).drew) ?_
  simp only [readsAt, opersAt, Option.map_some, List.filterMap_cons, List.filterMap_nil, List.getElem?_toArray, List.getElem?_cons_succ, List.getElem?_cons_zero]
  iterate 2 (refine ⟨_, Or.inl ⟨by rfl, fun w' hS => by first | (have e1 := Upd.cell1 hS q2 (by simp); first | (go_simp; done) | (go_simp; with_reducible rfl)) | (go_simp; done) | (go_simp; with_reducible rfl)⟩, ?_⟩; simp only [Act.put, List.setIfInBounds_toArray, List.set_cons_zero, List.set_cons_succ])
  refine ⟨_, yields_slice rfl 26 5 1 _ _ _ rfl Tryz.underlying26 (by kernel_rfl) g off n cp rfl _ _ 16 24 rfl rfl (by decide) (by decide) (by decide) (by omega) (by omega) (off + 16) 8 (cp - 16) rfl rfl rfl, ?_⟩
  simp only [Act.put, List.setIfInBounds_toArray, List.set_cons_zero, List.set_cons_succ]
  iterate 3 (refine ⟨_, Or.inl ⟨by rfl, fun w' hS => by first | (have e1 := Upd.cell1 hS q2 (by simp); first | (go_simp; done) | (go_simp; with_reducible rfl)) | (go_simp; done) | (go_simp; with_reducible rfl)⟩, ?_⟩; simp only [Act.put, List.setIfInBounds_toArray, List.set_cons_zero, List.set_cons_succ])
  simp only [readsThen, preThen]
  change wpList _ _ _ [_] _ _
  go_wp2_with (go_at_call 242; (refine (PutUint64 g (off + 16) 8 _ N C _ c _ (World.ownsRow.drew hR2) (by omega) (by omega)).mono ?_); rintro e w3 ⟨rfl, hR3, hu3⟩)
  have r1 := hu3.ofDrew.cell1 q1 (by simp; omega)
  have r0 := hu3.ofDrew.cell1 q0 (by simp; omega)
  refine wp_region_split (S := Upd [] w3) [(true, 0), (true, 1), (true, 2), (true, 3), (true, 4), (true, 5)] [] [6] (by kernel_rfl) (by kernel_rfl) (fun _ _ d _ _ h => by cases d <;> exact h) ((Upd.refl _ _).drew) ?_
  simp only [readsAt, opersAt, Option.map_some, List.filterMap_cons, List.filterMap_nil, List.getElem?_toArray, List.getElem?_cons_succ, List.getElem?_cons_zero]
  iterate 2 (refine ⟨_, Or.inl ⟨by rfl, fun w' hS => by first | (have e1 := Upd.cell1 hS r1 (by simp); first | (go_simp; done) | (go_simp; with_reducible rfl)) | (go_simp; done) | (go_simp; with_reducible rfl)⟩, ?_⟩; simp only [Act.put, List.setIfInBounds_toArray, List.set_cons_zero, List.set_cons_succ])
  refine ⟨_, yields_slice rfl 26 5 1 _ _ _ rfl Tryz.underlying26 (by kernel_rfl) g off n cp rfl _ _ 8 16 rfl rfl (by decide) (by decide) (by decide) (by omega) (by omega) (off + 8) 8 (cp - 8) rfl rfl rfl, ?_⟩
  simp only [Act.put, List.setIfInBounds_toArray, List.set_cons_zero, List.set_cons_succ]
  iterate 3 (refine ⟨_, Or.inl ⟨by rfl, fun w' hS => by first | (have e1 := Upd.cell1 hS r1 (by simp); first | (go_simp; done) | (go_simp; with_reducible rfl)) | (go_simp; done) | (go_simp; with_reducible rfl)⟩, ?_⟩; simp only [Act.put, List.setIfInBounds_toArray, List.set_cons_zero, List.set_cons_succ])
  simp only [readsThen, preThen]
  change wpList _ _ _ [_] _ _
  go_wp2_with (go_at_call 242; (refine (PutUint64 g (off + 8) 8 _ N C _ b _ (World.ownsRow.drew hR3) (by omega) (by omega)).mono ?_); rintro e w4 ⟨rfl, hR4, hu4⟩)
  have s0 := hu4.ofDrew.cell1 r0 (by simp; omega)
  refine wp_region_split (S := Upd [] w4) [(true, 0), (true, 1), (true, 2), (true, 3), (true, 4), (true, 5)] [] [6] (by kernel_rfl) (by kernel_rfl) (fun _ _ d _ _ h => by cases d <;> exact h) ((Upd.refl _ _).drew) ?_
  simp only [readsAt, opersAt, Option.map_some, List.filterMap_cons, List.filterMap_nil, List.getElem?_toArray, List.getElem?_cons_succ, List.getElem?_cons_zero]
  iterate 2 (refine ⟨_, Or.inl ⟨by rfl, fun w' hS => by first | (have e1 := Upd.cell1 hS s0 (by simp); first | (go_simp; done) | (go_simp; with_reducible rfl)) | (go_simp; done) | (go_simp; with_reducible rfl)⟩, ?_⟩; simp only [Act.put, List.setIfInBounds_toArray, List.set_cons_zero, List.set_cons_succ])
  refine ⟨_, yields_slice rfl 26 5 1 _ _ _ rfl Tryz.underlying26 (by kernel_rfl) g off n cp rfl _ _ 0 8 rfl rfl (by decide) (by decide) (by decide) (by omega) (by omega) off 8 cp rfl rfl rfl, ?_⟩
  simp only [Act.put, List.setIfInBounds_toArray, List.set_cons_zero, List.set_cons_succ]
  iterate 3 (refine ⟨_, Or.inl ⟨by rfl, fun w' hS => by first | (have e1 := Upd.cell1 hS s0 (by simp); first | (go_simp; done) | (go_simp; with_reducible rfl)) | (go_simp; done) | (go_simp; with_reducible rfl)⟩, ?_⟩; simp only [Act.put, List.setIfInBounds_toArray, List.set_cons_zero, List.set_cons_succ])
  simp only [readsThen, preThen]
  change wpList _ _ _ [_] _ _
  go_wp2_with (go_at_call 242; (refine (PutUint64 g off 8 _ N C _ a _ (World.ownsRow.drew hR4) (by omega) (by omega)).mono ?_); rintro e w5 ⟨rfl, hR5, hu5⟩)
  go_end0
  have e1 : putAt (putAt xs (off + 24) (leV 8 d)) (off + 16) (leV 8 c) = putAt xs (off + 16) (leV 8 c ++ leV 8 d) := putAt_two (o := off + 16) (leV_len 8 c) (by rw [leV_len]; omega)
  have e2 : putAt (putAt xs (off + 16) (leV 8 c ++ leV 8 d)) (off + 8) (leV 8 b) = putAt xs (off + 8) (leV 8 b ++ (leV 8 c ++ leV 8 d)) := putAt_two (o := off + 8) (leV_len 8 b) (by rw [List.length_append, leV_len, leV_len]; omega)
  have e3 : putAt (putAt xs (off + 8) (leV 8 b ++ (leV 8 c ++ leV 8 d))) off (leV 8 a) = putAt xs off (leV 8 a ++ (leV 8 b ++ (leV 8 c ++ leV 8 d))) := putAt_two (leV_len 8 a) (by rw [List.length_append, List.length_append, leV_len, leV_len, leV_len]; omega)
  rw [e1, e2, e3] at hR5
  refine ⟨rfl, by simpa [wbyte] using hR5, ?_⟩
  exact ((((u1.mono (by simp)).trans hu2.ofDrew (fun _ h => .inl h)).trans hu3.ofDrew (fun _ h => .inl h)).trans hu4.ofDrew (fun _ h => .inl h)).trans hu5.ofDrew (fun _ h => .inl h)
end Go.Proofs.YtfbohkbpgfnceaaGreatDoor
/- Columns of two or four words a row: read back. -/
namespace Go.Proofs.YtfbohkbpgfnceaaGreatDoor
set_option linter.unusedVariables false
set_option linter.unusedSimpArgs false
open Go Go.RowKit
theorem wbyte_at {w : World} {g o : Nat} {ws : List Int} (h : w.rangeAt g o (wbyte ws)) (k : Nat) (hk : k < ws.length) : w.rangeAt g (o + 8 * k) (leV 8 ws[k]) := fun j v hj => by
  have hj' : j < 8 := by have := (List.getElem?_eq_some_iff.1 hj).1; rw [leV_len] at this; exact this
  have h1 := flat_get (leV 8) 8 ws (fun a _ => leV_len 8 a) k hk j hj'
  have h2 := h (k * 8 + j) v (h1.trans hj)
  rw [Nat.add_assoc, Nat.mul_comm 8 k]
  exact h2
def InU64 (x : Int) : Prop := 0 ≤ x ∧ x < 18446744073709551616
theorem InU64.mod {x : Int} (h : InU64 x) : x % 18446744073709551616 = x := by unfold InU64 at h; omega
set_option maxRecDepth 100000 in
set_option maxHeartbeats 1000000 in
theorem get128 (g off c : Nat) (a b : Int) (ha : InU64 a) (hb : InU64 b) (w : World) (h : w.rangeAt g off (wbyte [a, b])) (hlt : g < w.heap.size) (hc : 16 ≤ c) :
    Calls Tryz.prog 254 #[.slice (some ⟨g, off, none⟩) 16 c] w fun e w' => e = .returned (.agg #[.int .u64 a, .int .u64 b]) ∧ Upd [] w w' := by
  obtain ⟨k1, u1, s1⟩ := alloc_facts w (Obj.cells #[.int .u64 0, .int .u64 0] 143)
  have r0 := u1.range (wbyte_at h 0 (by simp)) hlt (by simp)
  have r1 := u1.range (wbyte_at h 1 (by simp)) hlt (by simp)
  simp only [Nat.mul_zero, Nat.add_zero, Nat.mul_one, List.getElem_cons_zero, List.getElem_cons_succ] at r0 r1
  have hl1 := Nat.lt_of_lt_of_le hlt u1.size
  have ma := ha.mod
  have mb := hb.mod
  go_enter Tryz.func254, Tryz.ntmps254
  go_wp2
  generalize w.alloc (Obj.cells #[.int .u64 0, .int .u64 0] 143) = W at *
  refine wp_region_split (S := Upd [] W) [(true, 0), (true, 1), (true, 2), (true, 4), (true, 5), (true, 6)] [3] [7, 8, 9] (by kernel_rfl) (by kernel_rfl) (fun _ _ d _ _ h => by cases d <;> exact h) ((Upd.refl _ _).drew) ?_
  simp only [readsAt, opersAt, Option.map_some, List.filterMap_cons, List.filterMap_nil, List.getElem?_toArray, List.getElem?_cons_succ, List.getElem?_cons_zero]
  iterate 2 (refine ⟨_, Or.inl ⟨by rfl, fun w' hS => by first | (skip; first | (go_simp; done) | (go_simp; with_reducible rfl)) | (go_simp; done) | (go_simp; with_reducible rfl)⟩, ?_⟩; simp only [Act.put, List.setIfInBounds_toArray, List.set_cons_zero, List.set_cons_succ])
  refine ⟨_, yields_slice rfl 26 5 1 _ _ _ rfl Tryz.underlying26 (by kernel_rfl) g off 16 c rfl _ _ 0 8 rfl rfl (by decide) (by decide) (by decide) (by omega) (by omega) off 8 c rfl rfl rfl, ?_⟩
  simp only [Act.put, List.setIfInBounds_toArray, List.set_cons_zero, List.set_cons_succ]
  iterate 2 (refine ⟨_, Or.inl ⟨by rfl, fun w' hS => by first | (skip; first | (go_simp; done) | (go_simp; with_reducible rfl)) | (go_simp; done) | (go_simp; with_reducible rfl)⟩, ?_⟩; simp only [Act.put, List.setIfInBounds_toArray, List.set_cons_zero, List.set_cons_succ])
  refine ⟨_, yields_slice rfl 26 5 1 _ _ _ rfl Tryz.underlying26 (by kernel_rfl) g off 16 c rfl _ _ 8 16 rfl rfl (by decide) (by decide) (by decide) (by omega) (by omega) (off + 8) 8 (c - 8) rfl rfl rfl, ?_⟩
  simp only [Act.put, List.setIfInBounds_toArray, List.set_cons_zero, List.set_cons_succ]
  intro L0 hL0
  rw [if_pos (by rfl)]
  go_simp; refine (Uint64at g off _ a _ ((Upd.refl [] W).drew.range r0 hl1 (by simp)) hl1).mono ?_; rintro e w1 ⟨rfl, hu1⟩
  refine hL0 _ _ ⟨hu1.ofDrew, ?_⟩
  clear hL0 L0
  try simp only [preThen]
  change wpList _ _ _ [_, _, _] _ _
  have kk := hu1.ofDrew.at k1 (by simp)
  have r1' := hu1.ofDrew.range r1 hl1 (by simp)
  have hl2 := Nat.lt_of_lt_of_le hl1 hu1.ofDrew.size
  rw [ma]
  go_wp2_with (first
    | (go_at_call 241; (refine (Uint64at g (off + 8) _ b _ r1' hl2).mono ?_); rintro e w2 ⟨rfl, hu2⟩; have k2 := hu2.at kk (by simp))
    | ((with_reducible show wpList _ _ _ _ _ _); refine wpList_store_blk rfl 143 (.tmp 2) (.tmp 13) rfl (b := w.heap.size) rfl k2 (cs := [.int .u64 a, .int .u64 b]) rfl rfl (by kernel_rfl) (by simp [Value.oneCell']) ?_; intro w4 hb4 hu4; simp only [Act.put]))
  refine bodyPost_ret (v := .agg #[.int .u64 a, .int .u64 b]) (results_cell1 Tryz.results254 (b := w.heap.size) rfl (run_loadVar_mid w4 w.heap.size 0 143 [.int .u64 a, .int .u64 b] _ (rangeAt_blk hb4) Tryz.underlying143 rfl (by kernel_rfl))) rfl ⟨rfl, ?_⟩
  exact ((u1.trans hu1.ofDrew (fun _ h => .inl h)).trans hu2 (fun _ h => .inl h)).trans hu4 (fun y hy => by simp at hy; exact .inr (by omega))
set_option maxRecDepth 100000 in
set_option maxHeartbeats 2000000 in
theorem get256 (g off cp : Nat) (a b c d : Int) (ha : InU64 a) (hb : InU64 b) (hc : InU64 c) (hd : InU64 d) (w : World) (h : w.rangeAt g off (wbyte [a, b, c, d])) (hlt : g < w.heap.size) (hcp : 32 ≤ cp) :
    Calls Tryz.prog 269 #[.slice (some ⟨g, off, none⟩) 32 cp] w fun e w' => e = .returned (.agg #[.int .u64 a, .int .u64 b, .int .u64 c, .int .u64 d]) ∧ Upd [] w w' := by
  obtain ⟨k1, u1, s1⟩ := alloc_facts w (Obj.cells #[.int .u64 0, .int .u64 0, .int .u64 0, .int .u64 0] 244)
  have r0 := u1.range (wbyte_at h 0 (by simp)) hlt (by simp)
  have r1 := u1.range (wbyte_at h 1 (by simp)) hlt (by simp)
  have r2 := u1.range (wbyte_at h 2 (by simp)) hlt (by simp)
  have r3 := u1.range (wbyte_at h 3 (by simp)) hlt (by simp)
  simp only [Nat.mul_zero, Nat.add_zero, Nat.mul_one, Nat.reduceMul, List.getElem_cons_zero, List.getElem_cons_succ] at r0 r1 r2 r3
  have hl1 := Nat.lt_of_lt_of_le hlt u1.size
  have ma := ha.mod
  have mb := hb.mod
  have mc := hc.mod
  have md := hd.mod
  go_enter Tryz.func269, Tryz.ntmps269
  go_wp2
  generalize w.alloc (Obj.cells #[.int .u64 0, .int .u64 0, .int .u64 0, .int .u64 0] 244) = W at *
  refine wp_region_stps (S := Upd [] W) [(some true, 0), (some true, 1), (some true, 2), (some true, 4), (some true, 5), (some true, 6), (some true, 9), (some true, 10), (some true, 11), (some true, 13), (some true, 14), (some true, 15), (none, 3), (none, 7), (some true, 8), (none, 12), (none, 16), (some true, 17), (some true, 18)] [19] (by kernel_rfl) (by kernel_rfl) (fun _ _ d _ _ h => by cases d <;> exact h) ((Upd.refl _ _).drew) ?_
  simp only [stpsAt, opersAt, Option.map_some, List.filterMap_cons, List.filterMap_nil, List.getElem?_toArray, List.getElem?_cons_succ, List.getElem?_cons_zero]
  refine ⟨_, Or.inl ⟨by rfl, fun w' hS => by first | (skip; first | (go_simp; done) | (go_simp; with_reducible rfl)) | (go_simp; done) | (go_simp; with_reducible rfl)⟩, ?_⟩
  simp only [Act.put, List.setIfInBounds_toArray, List.set_cons_zero, List.set_cons_succ]
  refine ⟨_, Or.inl ⟨by rfl, fun w' hS => by first | (go_simp; done) | (go_simp; with_reducible rfl)⟩, ?_⟩
  simp only [Act.put, List.setIfInBounds_toArray, List.set_cons_zero, List.set_cons_succ]
  refine ⟨_, yields_slice rfl 26 5 1 _ _ _ rfl Tryz.underlying26 (by kernel_rfl) g off 32 cp rfl _ _ 0 8 rfl rfl (by decide) (by decide) (by decide) (by omega) (by omega) off 8 cp rfl rfl rfl, ?_⟩
  simp only [Act.put, List.setIfInBounds_toArray, List.set_cons_zero, List.set_cons_succ]
  refine ⟨_, Or.inl ⟨by rfl, fun w' hS => by first | (skip; first | (go_simp; done) | (go_simp; with_reducible rfl)) | (go_simp; done) | (go_simp; with_reducible rfl)⟩, ?_⟩
  simp only [Act.put, List.setIfInBounds_toArray, List.set_cons_zero, List.set_cons_succ]
  refine ⟨_, Or.inl ⟨by rfl, fun w' hS => by first | (go_simp; done) | (go_simp; with_reducible rfl)⟩, ?_⟩
  simp only [Act.put, List.setIfInBounds_toArray, List.set_cons_zero, List.set_cons_succ]
  refine ⟨_, yields_slice rfl 26 5 1 _ _ _ rfl Tryz.underlying26 (by kernel_rfl) g off 32 cp rfl _ _ 8 16 rfl rfl (by decide) (by decide) (by decide) (by omega) (by omega) (off + 8) 8 (cp - 8) rfl rfl rfl, ?_⟩
  simp only [Act.put, List.setIfInBounds_toArray, List.set_cons_zero, List.set_cons_succ]
  refine ⟨_, Or.inl ⟨by rfl, fun w' hS => by first | (skip; first | (go_simp; done) | (go_simp; with_reducible rfl)) | (go_simp; done) | (go_simp; with_reducible rfl)⟩, ?_⟩
  simp only [Act.put, List.setIfInBounds_toArray, List.set_cons_zero, List.set_cons_succ]
  refine ⟨_, Or.inl ⟨by rfl, fun w' hS => by first | (go_simp; done) | (go_simp; with_reducible rfl)⟩, ?_⟩
  simp only [Act.put, List.setIfInBounds_toArray, List.set_cons_zero, List.set_cons_succ]
  refine ⟨_, yields_slice rfl 26 5 1 _ _ _ rfl Tryz.underlying26 (by kernel_rfl) g off 32 cp rfl _ _ 16 24 rfl rfl (by decide) (by decide) (by decide) (by omega) (by omega) (off + 16) 8 (cp - 16) rfl rfl rfl, ?_⟩
  simp only [Act.put, List.setIfInBounds_toArray, List.set_cons_zero, List.set_cons_succ]
  refine ⟨_, Or.inl ⟨by rfl, fun w' hS => by first | (skip; first | (go_simp; done) | (go_simp; with_reducible rfl)) | (go_simp; done) | (go_simp; with_reducible rfl)⟩, ?_⟩
  simp only [Act.put, List.setIfInBounds_toArray, List.set_cons_zero, List.set_cons_succ]
  refine ⟨_, Or.inl ⟨by rfl, fun w' hS => by first | (go_simp; done) | (go_simp; with_reducible rfl)⟩, ?_⟩
  simp only [Act.put, List.setIfInBounds_toArray, List.set_cons_zero, List.set_cons_succ]
  refine ⟨_, yields_slice rfl 26 5 1 _ _ _ rfl Tryz.underlying26 (by kernel_rfl) g off 32 cp rfl _ _ 24 32 rfl rfl (by decide) (by decide) (by decide) (by omega) (by omega) (off + 24) 8 (cp - 24) rfl rfl rfl, ?_⟩
  simp only [Act.put, List.setIfInBounds_toArray, List.set_cons_zero, List.set_cons_succ]
  intro L0 hL0
  rw [if_pos (by rfl)]
  go_simp; refine (Uint64at g off _ a _ ((Upd.refl [] W).drew.range r0 hl1 (by simp)) hl1).mono ?_; rintro e w1 ⟨rfl, hu1⟩
  refine hL0 _ _ ⟨hu1.ofDrew, ?_⟩
  clear hL0 L0
  intro L1 hL1
  rw [if_pos (by rfl)]
  go_simp; refine (Uint64at g (off + 8) _ b _ (hu1.ofDrew.range r1 hl1 (by simp)) (Nat.lt_of_lt_of_le hl1 hu1.ofDrew.size)).mono ?_; rintro e w2 ⟨rfl, hu2⟩
  refine hL1 _ _ ⟨(hu1.ofDrew.trans hu2 (fun _ h => .inl h)), ?_⟩
  clear hL1 L1
  refine ⟨_, Or.inl ⟨by rfl, fun w' hS => by first | (go_simp; done) | (go_simp; with_reducible rfl)⟩, ?_⟩
  simp only [Act.put, List.setIfInBounds_toArray, List.set_cons_zero, List.set_cons_succ]
  intro L2 hL2
  rw [if_pos (by rfl)]
  go_simp; refine (Uint64at g (off + 16) _ c _ ((hu1.ofDrew.trans hu2 (fun _ h => .inl h)).range r2 hl1 (by simp)) (Nat.lt_of_lt_of_le hl1 (hu1.ofDrew.trans hu2 (fun _ h => .inl h)).size)).mono ?_; rintro e w3 ⟨rfl, hu3⟩
  refine hL2 _ _ ⟨((hu1.ofDrew.trans hu2 (fun _ h => .inl h)).trans hu3 (fun _ h => .inl h)), ?_⟩
  clear hL2 L2
  intro L3 hL3
  rw [if_pos (by rfl)]
  go_simp; refine (Uint64at g (off + 24) _ d _ (((hu1.ofDrew.trans hu2 (fun _ h => .inl h)).trans hu3 (fun _ h => .inl h)).range r3 hl1 (by simp)) (Nat.lt_of_lt_of_le hl1 ((hu1.ofDrew.trans hu2 (fun _ h => .inl h)).trans hu3 (fun _ h => .inl h)).size)).mono ?_; rintro e w4 ⟨rfl, hu4⟩
  refine hL3 _ _ ⟨(((hu1.ofDrew.trans hu2 (fun _ h => .inl h)).trans hu3 (fun _ h => .inl h)).trans hu4 (fun _ h => .inl h)), ?_⟩
  clear hL3 L3
  refine ⟨_, Or.inl ⟨by rfl, fun w' hS => by first | (go_simp; done) | (go_simp; with_reducible rfl)⟩, ?_⟩
  simp only [Act.put, List.setIfInBounds_toArray, List.set_cons_zero, List.set_cons_succ]
  refine ⟨_, Or.inl ⟨by rfl, fun w' hS => by first | (go_simp; done) | (go_simp; with_reducible rfl)⟩, ?_⟩
  simp only [Act.put, List.setIfInBounds_toArray, List.set_cons_zero, List.set_cons_succ]
  change wpList _ _ _ [_] _ _
  have kk := (((hu1.ofDrew.trans hu2 (fun _ h => .inl h)).trans hu3 (fun _ h => .inl h)).trans hu4 (fun _ h => .inl h)).at k1 (by simp)
  try simp only [ma, mb, mc, md]
  go_wp2_with ((with_reducible show wpList _ _ _ _ _ _); refine wpList_store_blk rfl 244 (.tmp 2) (.tmp 23) rfl (b := w.heap.size) rfl kk (cs := [.int .u64 a, .int .u64 b, .int .u64 c, .int .u64 d]) rfl rfl (by kernel_rfl) (by simp [Value.oneCell']) ?_; intro w6 hb6 hu6; simp only [Act.put])
  refine bodyPost_ret (v := .agg #[.int .u64 a, .int .u64 b, .int .u64 c, .int .u64 d]) (results_cell1 Tryz.results269 (b := w.heap.size) rfl (run_loadVar_mid w6 w.heap.size 0 244 [.int .u64 a, .int .u64 b, .int .u64 c, .int .u64 d] _ (rangeAt_blk hb6) Tryz.underlying244 rfl (by kernel_rfl))) rfl ⟨rfl, ?_⟩
  exact (u1.trans (((hu1.ofDrew.trans hu2 (fun _ h => .inl h)).trans hu3 (fun _ h => .inl h)).trans hu4 (fun _ h => .inl h)) (fun _ h => .inl h)).trans hu6 (fun y hy => by simp at hy; exact .inr (by omega))
end Go.Proofs.YtfbohkbpgfnceaaGreatDoor
/- Columns of two or four words a row: Append, EncodeColumn, DecodeColumn. -/
namespace Go.Proofs.YtfbohkbpgfnceaaGreatDoor
set_option linter.unusedVariables false
set_option linter.unusedSimpArgs false
open Go Go.RowKit
theorem wpList_slice {P : Program} {w : World} {ops : Array Oper} {rest : List Oper} {o : Oper} {a : Act} {Q : Exit → Act → World → Prop} (hgd : o.guard = none) (T e : TypeId) (sz : Nat) (x l h : Operand) (ho : o.op = .slice T x (some l) (some h) none) (hu : P.underlying T = some (.slice e)) (hsz : (P.info? e).map (·.size) = some sz)
    (b off n c : Nat) (hx : a.eval x = .slice (some ⟨b, off, none⟩) n c) (L H : Int) {kl kh : IntKind} (lo hi : Nat) (hl : a.eval l = .int kl L) (hh : a.eval h = .int kh H) (hL : L = lo) (hH : H = hi) (h1 : lo ≤ hi) (h2 : hi ≤ c) (h3 : lo < c) (off' n' c' : Nat) (e1 : off' = off + lo * sz) (e2 : n' = hi - lo) (e3 : c' = c - lo)
    (k : wpList P ops Q rest (a.put o.dst (.slice (some ⟨b, off', none⟩) n' c')) w) : wpList P ops Q (o :: rest) a w :=
  wpList_plain hgd fun K hK => by
    subst hL hH e1 e2 e3
    unfold Oper.wp execOp
    simp only [ho, hx, Option.map_some, hl, hh, Option.map_none]
    simp only [Sem.run_bind, run_sliceAt_slice (P := P) w T _ _ _ _ (by simp only [Program.elem, hu]), run_slice_at T e sz w hu hsz b off n c lo hi h1 h2 h3, Result.andThen_ok, Sem.run_pure]
    exact hK _ _ k
theorem Tryz.info142 : (Tryz.prog.info? 142).map (fun i => (i.zero, i.size, i.bytes)) = some (some (.agg #[.int .u64 0, .int .u64 0]), 2, 16) := by kernel_rfl
theorem size_ColInt128 : (Tryz.prog.info? 142).map (·.size) = some 2 := by kernel_rfl
set_option maxRecDepth 100000 in
set_option maxHeartbeats 400000 in
theorem ColInt128_Append (p : Nat) (ao : Option Addr) (n c : Nat) (xs : List Value) (x : List Value) (w : World) (h : Hold w p 140 142 2 ao n c xs) (hn : n ≤ 1000000) (hx : x.length = 2) (hx1 : ∀ u ∈ x, u.oneCell' = true) :
    Calls Tryz.prog 246 #[.pointer (some ⟨p, 0, none⟩), .agg x.toArray] w fun e w' => e = .returned (.tuple #[]) ∧ Grew w w' p 140 142 2 ao (n + 1) (xs ++ x) := by
  have hc := h.cell
  have hs : (Tryz.prog.info? 142).map (·.size) = some x.length := by rw [hx]; exact size_ColInt128
  have hu := Tryz.underlying142
  go_enter Tryz.func246, Tryz.ntmps246
  go_wp2
  have hr : (w.alloc (.cells x.toArray 142)).rangeAt w.heap.size 0 x := rangeAt_blk (heap_alloc_new _ _)
  have hh : Hold (w.alloc (.cells x.toArray 142)) p 140 142 2 ao n c xs := h.kept ((Upd.refl [] w).alloc _) (by simp) (by simp)
  have hlt : w.heap.size < (w.alloc (.cells x.toArray 142)).heap.size := by simp
  have hup := (Upd.refl [] w).alloc (.cells x.toArray 142)
  generalize w.alloc (.cells x.toArray 142) = W at *
  have hc' := hh.cell
  have hpl := hh.lt
  refine wp_region_split (S := Upd [] W) [(false, 0), (true, 1), (true, 2), (true, 3), (true, 4)] [5] [6, 7, 8] (by kernel_rfl) (by kernel_rfl) (fun _ _ d _ _ h => by cases d <;> exact h) ((Upd.refl _ _).drew) ?_
  simp only [readsAt, opersAt, Option.map_some, List.filterMap_cons, List.filterMap_nil, List.getElem?_toArray, List.getElem?_cons_succ, List.getElem?_cons_zero]
  iterate 4 (refine ⟨_, Or.inl ⟨by rfl, fun w' hS => by first | (have hc1 := Upd.cell1 hS hc' (by simp); first | (go_simp; done) | (go_simp; with_reducible rfl)) | (go_simp; done) | (go_simp; with_reducible rfl)⟩, ?_⟩; simp only [Act.put, List.setIfInBounds_toArray, List.set_cons_zero, List.set_cons_succ])
  refine ⟨_, yieldsIf_load_mid (by rfl) _ _ rfl _ _ rfl x _ (fun w' hS => Upd.range hS hr hlt (by simp)) hu rfl hs, ?_⟩
  simp only [Act.put, List.setIfInBounds_toArray, List.set_cons_zero, List.set_cons_succ]
  intro L0 hL0
  rw [if_pos (by rfl)]
  go_simp; rw [foldl_set _ _ hx]
  refine hL0 _ _ ⟨by exact ((Upd.refl _ _).alloc _).drew, ?_⟩
  clear hL0 L0
  try simp only [preThen]
  change wpList _ _ _ [_, _, _] _ _
  go_wp2_with (at_builtin; refine wpList_app1d _ rfl _ _ 140 rfl 142 _ 2 16 Tryz.underlying140 Tryz.info142 rfl (by decide) hh.own rfl x rfl hx rfl hx1 (by decide) (by omega) ?_; intro ao1 c1 w1 hown1 hupd1 hin1; have hc1 := hh.cell1 hupd1; have hf1 := hh.free1 hupd1)
  go_end0
  exact ⟨rfl, _, _, hh.after hown1 hupd1 hin1, (hup.mono (by simp)).trans (hh.upd hupd1 _) (fun _ h => .inl h), hin1.le hup.size⟩
theorem Tryz.info143 : (Tryz.prog.info? 143).map (fun i => (i.zero, i.size, i.bytes)) = some (some (.agg #[.int .u64 0, .int .u64 0]), 2, 16) := by kernel_rfl
theorem size_ColUInt128 : (Tryz.prog.info? 143).map (·.size) = some 2 := by kernel_rfl
set_option maxRecDepth 100000 in
set_option maxHeartbeats 400000 in
theorem ColUInt128_Append (p : Nat) (ao : Option Addr) (n c : Nat) (xs : List Value) (x : List Value) (w : World) (h : Hold w p 235 143 2 ao n c xs) (hn : n ≤ 1000000) (hx : x.length = 2) (hx1 : ∀ u ∈ x, u.oneCell' = true) :
    Calls Tryz.prog 319 #[.pointer (some ⟨p, 0, none⟩), .agg x.toArray] w fun e w' => e = .returned (.tuple #[]) ∧ Grew w w' p 235 143 2 ao (n + 1) (xs ++ x) := by
  have hc := h.cell
  have hs : (Tryz.prog.info? 143).map (·.size) = some x.length := by rw [hx]; exact size_ColUInt128
  have hu := Tryz.underlying143
  go_enter Tryz.func319, Tryz.ntmps319
  go_wp2
  have hr : (w.alloc (.cells x.toArray 143)).rangeAt w.heap.size 0 x := rangeAt_blk (heap_alloc_new _ _)
  have hh : Hold (w.alloc (.cells x.toArray 143)) p 235 143 2 ao n c xs := h.kept ((Upd.refl [] w).alloc _) (by simp) (by simp)
  have hlt : w.heap.size < (w.alloc (.cells x.toArray 143)).heap.size := by simp
  have hup := (Upd.refl [] w).alloc (.cells x.toArray 143)
  generalize w.alloc (.cells x.toArray 143) = W at *
  have hc' := hh.cell
  have hpl := hh.lt
  refine wp_region_split (S := Upd [] W) [(false, 0), (true, 1), (true, 2), (true, 3), (true, 4)] [5] [6, 7, 8] (by kernel_rfl) (by kernel_rfl) (fun _ _ d _ _ h => by cases d <;> exact h) ((Upd.refl _ _).drew) ?_
  simp only [readsAt, opersAt, Option.map_some, List.filterMap_cons, List.filterMap_nil, List.getElem?_toArray, List.getElem?_cons_succ, List.getElem?_cons_zero]
  iterate 4 (refine ⟨_, Or.inl ⟨by rfl, fun w' hS => by first | (have hc1 := Upd.cell1 hS hc' (by simp); first | (go_simp; done) | (go_simp; with_reducible rfl)) | (go_simp; done) | (go_simp; with_reducible rfl)⟩, ?_⟩; simp only [Act.put, List.setIfInBounds_toArray, List.set_cons_zero, List.set_cons_succ])
  refine ⟨_, yieldsIf_load_mid (by rfl) _ _ rfl _ _ rfl x _ (fun w' hS => Upd.range hS hr hlt (by simp)) hu rfl hs, ?_⟩
  simp only [Act.put, List.setIfInBounds_toArray, List.set_cons_zero, List.set_cons_succ]
  intro L0 hL0
  rw [if_pos (by rfl)]
  go_simp; rw [foldl_set _ _ hx]
  refine hL0 _ _ ⟨by exact ((Upd.refl _ _).alloc _).drew, ?_⟩
  clear hL0 L0
  try simp only [preThen]
  change wpList _ _ _ [_, _, _] _ _
  go_wp2_with (at_builtin; refine wpList_app1d _ rfl _ _ 235 rfl 143 _ 2 16 Tryz.underlying235 Tryz.info143 rfl (by decide) hh.own rfl x rfl hx rfl hx1 (by decide) (by omega) ?_; intro ao1 c1 w1 hown1 hupd1 hin1; have hc1 := hh.cell1 hupd1; have hf1 := hh.free1 hupd1)
  go_end0
  exact ⟨rfl, _, _, hh.after hown1 hupd1 hin1, (hup.mono (by simp)).trans (hh.upd hupd1 _) (fun _ h => .inl h), hin1.le hup.size⟩
theorem Tryz.info156 : (Tryz.prog.info? 156).map (fun i => (i.zero, i.size, i.bytes)) = some (some (.agg #[.int .u64 0, .int .u64 0, .int .u64 0, .int .u64 0]), 4, 32) := by kernel_rfl
theorem size_ColInt256 : (Tryz.prog.info? 156).map (·.size) = some 4 := by kernel_rfl
set_option maxRecDepth 100000 in
set_option maxHeartbeats 400000 in
theorem ColInt256_Append (p : Nat) (ao : Option Addr) (n c : Nat) (xs : List Value) (x : List Value) (w : World) (h : Hold w p 154 156 4 ao n c xs) (hn : n ≤ 1000000) (hx : x.length = 4) (hx1 : ∀ u ∈ x, u.oneCell' = true) :
    Calls Tryz.prog 261 #[.pointer (some ⟨p, 0, none⟩), .agg x.toArray] w fun e w' => e = .returned (.tuple #[]) ∧ Grew w w' p 154 156 4 ao (n + 1) (xs ++ x) := by
  have hc := h.cell
  have hs : (Tryz.prog.info? 156).map (·.size) = some x.length := by rw [hx]; exact size_ColInt256
  have hu := Tryz.underlying156
  go_enter Tryz.func261, Tryz.ntmps261
  go_wp2
  have hr : (w.alloc (.cells x.toArray 156)).rangeAt w.heap.size 0 x := rangeAt_blk (heap_alloc_new _ _)
  have hh : Hold (w.alloc (.cells x.toArray 156)) p 154 156 4 ao n c xs := h.kept ((Upd.refl [] w).alloc _) (by simp) (by simp)
  have hlt : w.heap.size < (w.alloc (.cells x.toArray 156)).heap.size := by simp
  have hup := (Upd.refl [] w).alloc (.cells x.toArray 156)
  generalize w.alloc (.cells x.toArray 156) = W at *
  have hc' := hh.cell
  have hpl := hh.lt
  refine wp_region_split (S := Upd [] W) [(false, 0), (true, 1), (true, 2), (true, 3), (true, 4)] [5] [6, 7, 8] (by kernel_rfl) (by kernel_rfl) (fun _ _ d _ _ h => by cases d <;> exact h) ((Upd.refl _ _).drew) ?_
  simp only [readsAt, opersAt, Option.map_some, List.filterMap_cons, List.filterMap_nil, List.getElem?_toArray, List.getElem?_cons_succ, List.getElem?_cons_zero]
  iterate 4 (refine ⟨_, Or.inl ⟨by rfl, fun w' hS => by first | (have hc1 := Upd.cell1 hS hc' (by simp); first | (go_simp; done) | (go_simp; with_reducible rfl)) | (go_simp; done) | (go_simp; with_reducible rfl)⟩, ?_⟩; simp only [Act.put, List.setIfInBounds_toArray, List.set_cons_zero, List.set_cons_succ])
  refine ⟨_, yieldsIf_load_mid (by rfl) _ _ rfl _ _ rfl x _ (fun w' hS => Upd.range hS hr hlt (by simp)) hu rfl hs, ?_⟩
  simp only [Act.put, List.setIfInBounds_toArray, List.set_cons_zero, List.set_cons_succ]
  intro L0 hL0
  rw [if_pos (by rfl)]
  go_simp; rw [foldl_set _ _ hx]
  refine hL0 _ _ ⟨by exact ((Upd.refl _ _).alloc _).drew, ?_⟩
  clear hL0 L0
  try simp only [preThen]
  change wpList _ _ _ [_, _, _] _ _
  go_wp2_with (at_builtin; refine wpList_app1d _ rfl _ _ 154 rfl 156 _ 4 32 Tryz.underlying154 Tryz.info156 rfl (by decide) hh.own rfl x rfl hx rfl hx1 (by decide) (by omega) ?_; intro ao1 c1 w1 hown1 hupd1 hin1; have hc1 := hh.cell1 hupd1; have hf1 := hh.free1 hupd1)
  go_end0
  exact ⟨rfl, _, _, hh.after hown1 hupd1 hin1, (hup.mono (by simp)).trans (hh.upd hupd1 _) (fun _ h => .inl h), hin1.le hup.size⟩
theorem Tryz.info244 : (Tryz.prog.info? 244).map (fun i => (i.zero, i.size, i.bytes)) = some (some (.agg #[.int .u64 0, .int .u64 0, .int .u64 0, .int .u64 0]), 4, 32) := by kernel_rfl
theorem size_ColUInt256 : (Tryz.prog.info? 244).map (·.size) = some 4 := by kernel_rfl
set_option maxRecDepth 100000 in
set_option maxHeartbeats 400000 in
theorem ColUInt256_Append (p : Nat) (ao : Option Addr) (n c : Nat) (xs : List Value) (x : List Value) (w : World) (h : Hold w p 243 244 4 ao n c xs) (hn : n ≤ 1000000) (hx : x.length = 4) (hx1 : ∀ u ∈ x, u.oneCell' = true) :
    Calls Tryz.prog 330 #[.pointer (some ⟨p, 0, none⟩), .agg x.toArray] w fun e w' => e = .returned (.tuple #[]) ∧ Grew w w' p 243 244 4 ao (n + 1) (xs ++ x) := by
  have hc := h.cell
  have hs : (Tryz.prog.info? 244).map (·.size) = some x.length := by rw [hx]; exact size_ColUInt256
  have hu := Tryz.underlying244
  go_enter Tryz.func330, Tryz.ntmps330
  go_wp2
  have hr : (w.alloc (.cells x.toArray 244)).rangeAt w.heap.size 0 x := rangeAt_blk (heap_alloc_new _ _)
  have hh : Hold (w.alloc (.cells x.toArray 244)) p 243 244 4 ao n c xs := h.kept ((Upd.refl [] w).alloc _) (by simp) (by simp)
  have hlt : w.heap.size < (w.alloc (.cells x.toArray 244)).heap.size := by simp
  have hup := (Upd.refl [] w).alloc (.cells x.toArray 244)
  generalize w.alloc (.cells x.toArray 244) = W at *
  have hc' := hh.cell
  have hpl := hh.lt
  refine wp_region_split (S := Upd [] W) [(false, 0), (true, 1), (true, 2), (true, 3), (true, 4)] [5] [6, 7, 8] (by kernel_rfl) (by kernel_rfl) (fun _ _ d _ _ h => by cases d <;> exact h) ((Upd.refl _ _).drew) ?_
  simp only [readsAt, opersAt, Option.map_some, List.filterMap_cons, List.filterMap_nil, List.getElem?_toArray, List.getElem?_cons_succ, List.getElem?_cons_zero]
  iterate 4 (refine ⟨_, Or.inl ⟨by rfl, fun w' hS => by first | (have hc1 := Upd.cell1 hS hc' (by simp); first | (go_simp; done) | (go_simp; with_reducible rfl)) | (go_simp; done) | (go_simp; with_reducible rfl)⟩, ?_⟩; simp only [Act.put, List.setIfInBounds_toArray, List.set_cons_zero, List.set_cons_succ])
  refine ⟨_, yieldsIf_load_mid (by rfl) _ _ rfl _ _ rfl x _ (fun w' hS => Upd.range hS hr hlt (by simp)) hu rfl hs, ?_⟩
  simp only [Act.put, List.setIfInBounds_toArray, List.set_cons_zero, List.set_cons_succ]
  intro L0 hL0
  rw [if_pos (by rfl)]
  go_simp; rw [foldl_set _ _ hx]
  refine hL0 _ _ ⟨by exact ((Upd.refl _ _).alloc _).drew, ?_⟩
  clear hL0 L0
  try simp only [preThen]
  change wpList _ _ _ [_, _, _] _ _
  go_wp2_with (at_builtin; refine wpList_app1d _ rfl _ _ 243 rfl 244 _ 4 32 Tryz.underlying243 Tryz.info244 rfl (by decide) hh.own rfl x rfl hx rfl hx1 (by decide) (by omega) ?_; intro ao1 c1 w1 hown1 hupd1 hin1; have hc1 := hh.cell1 hupd1; have hf1 := hh.free1 hupd1)
  go_end0
  exact ⟨rfl, _, _, hh.after hown1 hupd1 hin1, (hup.mono (by simp)).trans (hh.upd hupd1 _) (fun _ h => .inl h), hin1.le hup.size⟩
set_option maxRecDepth 100000 in
set_option maxHeartbeats 1000000 in
theorem ColInt128_EncodeColumn (ac : Option Addr) (n cc : Nat) (vs : List (List Int)) (hvs : Words 2 vs) (bp : Nat) (ao : Option Addr) (m cp : Nat) (bs : List Value) (w : World) (hc : View w 2 ac n (vs.flatMap wcell)) (hb : Hold w bp 46 5 1 ao m cp bs)
    (hap : Apart ac bp ao) (hn : n ≤ 1000000) (hm : m ≤ 100000000) :
    Calls Tryz.prog 248 #[.slice ac n cc, .pointer (some ⟨bp, 0, none⟩)] w fun e w' => e = .returned (.tuple #[]) ∧ Grew w w' bp 46 5 1 ao (m + n * 16) (bs ++ vs.flatMap wbyte) := by
  have hvl : vs.length = n := by have := hc.len; rw [flatMap_len' wcell 2 vs hvs.cells] at this; omega
  have hbl := hb.own.len
  by_cases h0 : n = 0
  · subst h0
    have hv0 : vs = [] := List.eq_nil_of_length_eq_zero hvl
    subst hv0
    go_enter Tryz.func248, Tryz.ntmps248
    go_wp2
    refine bodyPost_ret (results_none rfl _ _ _) rfl ?_
    exact ⟨rfl, ao, cp, by simpa using hb, Upd.refl _ _, In.self (fun _ h => h)⟩
  · have h1 : ((n : Int) == 0) = false := beq_eq_false_iff_ne.2 (by omega)
    have hc0 := hb.cell
    go_enter Tryz.func248, Tryz.ntmps248
    go_wp2_with (at_builtin; refine wpList_zeros _ rfl _ _ 26 3 rfl 5 (.int .u8 0) 1 1 .i64 Tryz.underlying26 Tryz.underlying3 Tryz.info5 rfl (by decide) (by simp [Value.cells, Value.oneCell']) hb.own rfl (16 * n) (by omega) rfl (by omega) (by decide) (by omega) ?_; intro ao1 c1 w1 hown1 hupd1 hin1; have hc1 := hb.cell1 hupd1; have hf1 := hb.free1 hupd1)
    have hH1 := hb.after hown1 hupd1 hin1
    have hU1 := hb.upd hupd1 (.slice ao1 (m + 16 * n) c1)
    clear hown1 hupd1 hc1 hf1
    generalize w1.setCell ⟨bp, 0, none⟩ (.slice ao1 (m + 16 * n) c1) = w2 at *
    obtain ⟨g, rfl⟩ := hH1.own.head (by omega)
    go_loopw [5, 30] (fun off i wr => ∃ k : Nat, k ≤ n ∧ i = .int .i64 k ∧ off = .int .i64 (m + 16 * k : Nat) ∧ Hold wr bp 46 5 1 (some ⟨g, 0, none⟩) (m + 16 * n) c1 (bs ++ (vs.take k).flatMap wbyte ++ List.replicate (16 * (n - k)) (.int .u8 0)) ∧ Upd (bp :: bk ao) w wr)
      (fun _ i _ => n - (intOf i).toNat)
    case atStart => exact ⟨0, Nat.zero_le _, rfl, rfl, by rw [show (Value.int .u8 0).cells = #[Value.int .u8 0] from rfl, zeroCells1] at hH1; simpa using hH1, hU1⟩
    case round =>
      obtain ⟨k, hk, rfl, rfl, hH, hU⟩ := hrel
      by_cases hlt : k < n
      · have hk0 : ((k : Int) < n) := by omega
        obtain ⟨bb, o, rfl, hr, hbb⟩ := hc.at_ (by omega)
        have hbn : bb ∉ bp :: bk ao := hap.not bb (by simp)
        obtain ⟨v, hv⟩ : ∃ v, v = vs[k]'(by omega) := ⟨_, rfl⟩
        have hvm : v ∈ vs := by rw [hv]; exact List.getElem_mem _
        have hrx : wr.rangeAt bb (o + k * 2) (wcell v) := fun j u hj => by
          have hj' : j < 2 := by rw [← hvs.cells v hvm]; exact (List.getElem?_eq_some_iff.1 hj).1
          have h2 := flat_get wcell 2 vs hvs.cells k (by omega) j hj'
          rw [hU.cell hbb hbn, Nat.add_assoc]
          refine hr (k * 2 + j) u (h2.trans ?_)
          rw [← hv]; exact hj
        have hlb := hvs.bytes v hvm
        obtain ⟨a, b, rfl⟩ := len2 (hvs v hvm).1
        have hrx' : wr.rangeAt bb (o + k * 2) [.int .u64 a, .int .u64 b] := hrx
        have hcb := hH.cell
        have hcap : m + 16 * k + 16 ≤ c1 := by have := hH.own.cap; omega
        have hu := Tryz.underlying142
        have hs : (Tryz.prog.info? 142).map (·.size) = some ([.int .u64 a, .int .u64 b] : List Value).length := size_ColInt128
        have HX := Lib.hid hv
        clear hv hrx
        go_wp2_with (first
          | ((with_reducible show wpList _ _ _ _ _ _); with_reducible refine wpList_load_mid rfl 142 _ rfl bb (o + k * 2) rfl [.int .u64 a, .int .u64 b] _ hrx' hu rfl hs ?_)
          | ((with_reducible show wpList _ _ _ _ _ _); with_reducible refine wpList_store_blk rfl 142 _ _ rfl (b := wr.heap.size) rfl (heap_alloc_new _ _) rfl rfl hs (by simp [Value.oneCell']) ?_; intro w3 hb3 hu3))
        have hu4 : Upd [] wr w3 := ((Upd.refl [] wr).alloc _).trans hu3 (fun y hy => by simp at hy; exact .inr (by omega))
        clear hu3
        have hH3 := hH.kept hu4 (by simp) (by simp)
        have hcb3 := hH3.cell
        have hb3l := lt_of_block hb3
        have hr3 : w3.rangeAt wr.heap.size 0 [.int .u64 a, .int .u64 b] := rangeAt_blk hb3
        simp only [Act.put]
        have hwr : IntKind.i64.wrap ((m : Int) + 16 * k + 16) = m + 16 * k + 16 := IntWalk.i64_in _ (by omega)
        refine wp_region_split (S := Upd [] w3) [(true, 0), (true, 1), (true, 2), (true, 3), (true, 4), (true, 5), (true, 6), (true, 7), (true, 8)] [] [9] (by kernel_rfl) (by kernel_rfl) (fun _ _ d _ _ h => by cases d <;> exact h) ((Upd.refl _ _).drew) ?_
        simp only [readsAt, opersAt, Option.map_some, List.filterMap_cons, List.filterMap_nil, List.getElem?_toArray, List.getElem?_cons_succ, List.getElem?_cons_zero]
        iterate 7 (refine ⟨_, Or.inl ⟨by rfl, fun w' hS => by first | (have q1 := Upd.cell1 hS hcb3 (by simp); first | (go_simp; done) | (go_simp; with_reducible rfl)) | (go_simp; done) | (go_simp; with_reducible rfl)⟩, ?_⟩; simp only [Act.put, List.setIfInBounds_toArray, List.set_cons_zero, List.set_cons_succ])
        refine ⟨_, yields_slice rfl 26 5 1 _ _ _ rfl Tryz.underlying26 (by kernel_rfl) g 0 _ _ rfl _ _ (m + 16 * k) (m + 16 * k + 16) rfl rfl (by omega) (by omega) (by omega) hcap (by omega) (m + 16 * k) 16 (c1 - (m + 16 * k)) (by omega) (by omega) rfl, ?_⟩
        simp only [Act.put, List.setIfInBounds_toArray, List.set_cons_zero, List.set_cons_succ]
        refine ⟨_, yieldsIf_load_mid (by rfl) 142 (.tmp 7) rfl wr.heap.size 0 rfl [.int .u64 a, .int .u64 b] _ (fun w' hS => Upd.range hS hr3 hb3l (by simp)) hu rfl hs, ?_⟩
        simp only [Act.put, List.setIfInBounds_toArray, List.set_cons_zero, List.set_cons_succ]
        simp only [readsThen, preThen]
        change wpList _ _ _ [_] _ _
        clear hwr
        go_wp2_with (go_at_call 255; (with_reducible refine (put128 g (m + 16 * k) 16 _ (m + 16 * n) c1 _ a b _ (World.ownsRow.drew hH3.own) ?_ (by omega) (by omega)).mono ?_); (· have := Nat.mul_le_mul_left 16 (show k + 1 ≤ n by omega); omega); rintro e wx ⟨rfl, hrow, hux⟩)
        have hstep : putAt (bs ++ (vs.take k).flatMap wbyte ++ List.replicate (16 * (n - k)) (.int .u8 0)) (m + 16 * k) (wbyte [a, b]) = bs ++ (vs.take (k + 1)).flatMap wbyte ++ List.replicate (16 * (n - (k + 1))) (.int .u8 0) := by
          rw [flatMap_take_succ _ _ _ (by omega), ← HX.out]
          refine enc_step (r := 16 * (n - (k + 1))) (m := 16) ?_ hlb ?_
          · congr 1; have : n - k = (n - (k + 1)) + 1 := by omega
            rw [this]; omega
          · rw [List.length_append, flatMap_len' wbyte 16 _ (fun a ha => hvs.bytes a (List.mem_of_mem_take ha)), List.length_take]; omega
        rw [hstep] at hrow
        have hux' : Upd [g] wr wx := (hu4.mono (by simp)).trans hux.ofDrew (fun _ h => .inl h)
        have hH' : Hold wx bp 46 5 1 (some ⟨g, 0, none⟩) (m + 16 * n) c1 (bs ++ (vs.take (k + 1)).flatMap wbyte ++ List.replicate (16 * (n - (k + 1))) (.int .u8 0)) := ⟨hux'.at hH.blk (fun h => hH.ne (by simpa using h)), hrow, hH.ne⟩
        have hU' : Upd (bp :: bk ao) w wx := hU.trans hux' (fun y hy => by
          simp at hy; subst hy
          rcases hin1 y (by simp) with h | h
          · exact .inl (List.mem_cons_of_mem _ h)
          · exact .inr h)
        clear hstep hrow hux hux' hH hU hH3 hcb3 hr3 hb3 hu4 hrx'
        go_roundw
        case rel => exact ⟨k + 1, by omega, by go_num, by simp; omega, hH', hU'⟩
        case measure => simp [intOf]; omega
      · have hk0 : n ≤ k := by omega
        obtain rfl : k = n := by omega
        go_wp2
        go_end0
        refine ⟨rfl, some ⟨g, 0, none⟩, c1, ?_, hU, hin1⟩
        rw [List.take_of_length_le (by omega), Nat.sub_self, Nat.mul_zero, List.replicate_zero, List.append_nil] at hH
        rw [Nat.mul_comm k 16]
        exact hH
set_option maxRecDepth 100000 in
set_option maxHeartbeats 1000000 in
theorem ColUInt128_EncodeColumn (ac : Option Addr) (n cc : Nat) (vs : List (List Int)) (hvs : Words 2 vs) (bp : Nat) (ao : Option Addr) (m cp : Nat) (bs : List Value) (w : World) (hc : View w 2 ac n (vs.flatMap wcell)) (hb : Hold w bp 46 5 1 ao m cp bs)
    (hap : Apart ac bp ao) (hn : n ≤ 1000000) (hm : m ≤ 100000000) :
    Calls Tryz.prog 321 #[.slice ac n cc, .pointer (some ⟨bp, 0, none⟩)] w fun e w' => e = .returned (.tuple #[]) ∧ Grew w w' bp 46 5 1 ao (m + n * 16) (bs ++ vs.flatMap wbyte) := by
  have hvl : vs.length = n := by have := hc.len; rw [flatMap_len' wcell 2 vs hvs.cells] at this; omega
  have hbl := hb.own.len
  by_cases h0 : n = 0
  · subst h0
    have hv0 : vs = [] := List.eq_nil_of_length_eq_zero hvl
    subst hv0
    go_enter Tryz.func321, Tryz.ntmps321
    go_wp2
    refine bodyPost_ret (results_none rfl _ _ _) rfl ?_
    exact ⟨rfl, ao, cp, by simpa using hb, Upd.refl _ _, In.self (fun _ h => h)⟩
  · have h1 : ((n : Int) == 0) = false := beq_eq_false_iff_ne.2 (by omega)
    have hc0 := hb.cell
    go_enter Tryz.func321, Tryz.ntmps321
    go_wp2_with (at_builtin; refine wpList_zeros _ rfl _ _ 26 3 rfl 5 (.int .u8 0) 1 1 .i64 Tryz.underlying26 Tryz.underlying3 Tryz.info5 rfl (by decide) (by simp [Value.cells, Value.oneCell']) hb.own rfl (16 * n) (by omega) rfl (by omega) (by decide) (by omega) ?_; intro ao1 c1 w1 hown1 hupd1 hin1; have hc1 := hb.cell1 hupd1; have hf1 := hb.free1 hupd1)
    have hH1 := hb.after hown1 hupd1 hin1
    have hU1 := hb.upd hupd1 (.slice ao1 (m + 16 * n) c1)
    clear hown1 hupd1 hc1 hf1
    generalize w1.setCell ⟨bp, 0, none⟩ (.slice ao1 (m + 16 * n) c1) = w2 at *
    obtain ⟨g, rfl⟩ := hH1.own.head (by omega)
    go_loopw [5, 30] (fun off i wr => ∃ k : Nat, k ≤ n ∧ i = .int .i64 k ∧ off = .int .i64 (m + 16 * k : Nat) ∧ Hold wr bp 46 5 1 (some ⟨g, 0, none⟩) (m + 16 * n) c1 (bs ++ (vs.take k).flatMap wbyte ++ List.replicate (16 * (n - k)) (.int .u8 0)) ∧ Upd (bp :: bk ao) w wr)
      (fun _ i _ => n - (intOf i).toNat)
    case atStart => exact ⟨0, Nat.zero_le _, rfl, rfl, by rw [show (Value.int .u8 0).cells = #[Value.int .u8 0] from rfl, zeroCells1] at hH1; simpa using hH1, hU1⟩
    case round =>
      obtain ⟨k, hk, rfl, rfl, hH, hU⟩ := hrel
      by_cases hlt : k < n
      · have hk0 : ((k : Int) < n) := by omega
        obtain ⟨bb, o, rfl, hr, hbb⟩ := hc.at_ (by omega)
        have hbn : bb ∉ bp :: bk ao := hap.not bb (by simp)
        obtain ⟨v, hv⟩ : ∃ v, v = vs[k]'(by omega) := ⟨_, rfl⟩
        have hvm : v ∈ vs := by rw [hv]; exact List.getElem_mem _
        have hrx : wr.rangeAt bb (o + k * 2) (wcell v) := fun j u hj => by
          have hj' : j < 2 := by rw [← hvs.cells v hvm]; exact (List.getElem?_eq_some_iff.1 hj).1
          have h2 := flat_get wcell 2 vs hvs.cells k (by omega) j hj'
          rw [hU.cell hbb hbn, Nat.add_assoc]
          refine hr (k * 2 + j) u (h2.trans ?_)
          rw [← hv]; exact hj
        have hlb := hvs.bytes v hvm
        obtain ⟨a, b, rfl⟩ := len2 (hvs v hvm).1
        have hrx' : wr.rangeAt bb (o + k * 2) [.int .u64 a, .int .u64 b] := hrx
        have hcb := hH.cell
        have hcap : m + 16 * k + 16 ≤ c1 := by have := hH.own.cap; omega
        have hu := Tryz.underlying143
        have hs : (Tryz.prog.info? 143).map (·.size) = some ([.int .u64 a, .int .u64 b] : List Value).length := size_ColUInt128
        have HX := Lib.hid hv
        clear hv hrx
        go_wp2_with (first
          | ((with_reducible show wpList _ _ _ _ _ _); with_reducible refine wpList_load_mid rfl 143 _ rfl bb (o + k * 2) rfl [.int .u64 a, .int .u64 b] _ hrx' hu rfl hs ?_)
          | ((with_reducible show wpList _ _ _ _ _ _); with_reducible refine wpList_store_blk rfl 143 _ _ rfl (b := wr.heap.size) rfl (heap_alloc_new _ _) rfl rfl hs (by simp [Value.oneCell']) ?_; intro w3 hb3 hu3))
        have hu4 : Upd [] wr w3 := ((Upd.refl [] wr).alloc _).trans hu3 (fun y hy => by simp at hy; exact .inr (by omega))
        clear hu3
        have hH3 := hH.kept hu4 (by simp) (by simp)
        have hcb3 := hH3.cell
        have hb3l := lt_of_block hb3
        have hr3 : w3.rangeAt wr.heap.size 0 [.int .u64 a, .int .u64 b] := rangeAt_blk hb3
        simp only [Act.put]
        have hwr : IntKind.i64.wrap ((m : Int) + 16 * k + 16) = m + 16 * k + 16 := IntWalk.i64_in _ (by omega)
        refine wp_region_split (S := Upd [] w3) [(true, 0), (true, 1), (true, 2), (true, 3), (true, 4), (true, 5), (true, 6), (true, 7), (true, 8)] [] [9] (by kernel_rfl) (by kernel_rfl) (fun _ _ d _ _ h => by cases d <;> exact h) ((Upd.refl _ _).drew) ?_
        simp only [readsAt, opersAt, Option.map_some, List.filterMap_cons, List.filterMap_nil, List.getElem?_toArray, List.getElem?_cons_succ, List.getElem?_cons_zero]
        iterate 7 (refine ⟨_, Or.inl ⟨by rfl, fun w' hS => by first | (have q1 := Upd.cell1 hS hcb3 (by simp); first | (go_simp; done) | (go_simp; with_reducible rfl)) | (go_simp; done) | (go_simp; with_reducible rfl)⟩, ?_⟩; simp only [Act.put, List.setIfInBounds_toArray, List.set_cons_zero, List.set_cons_succ])
        refine ⟨_, yields_slice rfl 26 5 1 _ _ _ rfl Tryz.underlying26 (by kernel_rfl) g 0 _ _ rfl _ _ (m + 16 * k) (m + 16 * k + 16) rfl rfl (by omega) (by omega) (by omega) hcap (by omega) (m + 16 * k) 16 (c1 - (m + 16 * k)) (by omega) (by omega) rfl, ?_⟩
        simp only [Act.put, List.setIfInBounds_toArray, List.set_cons_zero, List.set_cons_succ]
        refine ⟨_, yieldsIf_load_mid (by rfl) 143 (.tmp 7) rfl wr.heap.size 0 rfl [.int .u64 a, .int .u64 b] _ (fun w' hS => Upd.range hS hr3 hb3l (by simp)) hu rfl hs, ?_⟩
        simp only [Act.put, List.setIfInBounds_toArray, List.set_cons_zero, List.set_cons_succ]
        simp only [readsThen, preThen]
        change wpList _ _ _ [_] _ _
        clear hwr
        go_wp2_with (go_at_call 255; (with_reducible refine (put128 g (m + 16 * k) 16 _ (m + 16 * n) c1 _ a b _ (World.ownsRow.drew hH3.own) ?_ (by omega) (by omega)).mono ?_); (· have := Nat.mul_le_mul_left 16 (show k + 1 ≤ n by omega); omega); rintro e wx ⟨rfl, hrow, hux⟩)
        have hstep : putAt (bs ++ (vs.take k).flatMap wbyte ++ List.replicate (16 * (n - k)) (.int .u8 0)) (m + 16 * k) (wbyte [a, b]) = bs ++ (vs.take (k + 1)).flatMap wbyte ++ List.replicate (16 * (n - (k + 1))) (.int .u8 0) := by
          rw [flatMap_take_succ _ _ _ (by omega), ← HX.out]
          refine enc_step (r := 16 * (n - (k + 1))) (m := 16) ?_ hlb ?_
          · congr 1; have : n - k = (n - (k + 1)) + 1 := by omega
            rw [this]; omega
          · rw [List.length_append, flatMap_len' wbyte 16 _ (fun a ha => hvs.bytes a (List.mem_of_mem_take ha)), List.length_take]; omega
        rw [hstep] at hrow
        have hux' : Upd [g] wr wx := (hu4.mono (by simp)).trans hux.ofDrew (fun _ h => .inl h)
        have hH' : Hold wx bp 46 5 1 (some ⟨g, 0, none⟩) (m + 16 * n) c1 (bs ++ (vs.take (k + 1)).flatMap wbyte ++ List.replicate (16 * (n - (k + 1))) (.int .u8 0)) := ⟨hux'.at hH.blk (fun h => hH.ne (by simpa using h)), hrow, hH.ne⟩
        have hU' : Upd (bp :: bk ao) w wx := hU.trans hux' (fun y hy => by
          simp at hy; subst hy
          rcases hin1 y (by simp) with h | h
          · exact .inl (List.mem_cons_of_mem _ h)
          · exact .inr h)
        clear hstep hrow hux hux' hH hU hH3 hcb3 hr3 hb3 hu4 hrx'
        go_roundw
        case rel => exact ⟨k + 1, by omega, by go_num, by simp; omega, hH', hU'⟩
        case measure => simp [intOf]; omega
      · have hk0 : n ≤ k := by omega
        obtain rfl : k = n := by omega
        go_wp2
        go_end0
        refine ⟨rfl, some ⟨g, 0, none⟩, c1, ?_, hU, hin1⟩
        rw [List.take_of_length_le (by omega), Nat.sub_self, Nat.mul_zero, List.replicate_zero, List.append_nil] at hH
        rw [Nat.mul_comm k 16]
        exact hH
set_option maxRecDepth 100000 in
set_option maxHeartbeats 1000000 in
theorem ColInt256_EncodeColumn (ac : Option Addr) (n cc : Nat) (vs : List (List Int)) (hvs : Words 4 vs) (bp : Nat) (ao : Option Addr) (m cp : Nat) (bs : List Value) (w : World) (hc : View w 4 ac n (vs.flatMap wcell)) (hb : Hold w bp 46 5 1 ao m cp bs)
    (hap : Apart ac bp ao) (hn : n ≤ 1000000) (hm : m ≤ 100000000) :
    Calls Tryz.prog 263 #[.slice ac n cc, .pointer (some ⟨bp, 0, none⟩)] w fun e w' => e = .returned (.tuple #[]) ∧ Grew w w' bp 46 5 1 ao (m + n * 32) (bs ++ vs.flatMap wbyte) := by
  have hvl : vs.length = n := by have := hc.len; rw [flatMap_len' wcell 4 vs hvs.cells] at this; omega
  have hbl := hb.own.len
  by_cases h0 : n = 0
  · subst h0
    have hv0 : vs = [] := List.eq_nil_of_length_eq_zero hvl
    subst hv0
    go_enter Tryz.func263, Tryz.ntmps263
    go_wp2
    refine bodyPost_ret (results_none rfl _ _ _) rfl ?_
    exact ⟨rfl, ao, cp, by simpa using hb, Upd.refl _ _, In.self (fun _ h => h)⟩
  · have h1 : ((n : Int) == 0) = false := beq_eq_false_iff_ne.2 (by omega)
    have hc0 := hb.cell
    go_enter Tryz.func263, Tryz.ntmps263
    go_wp2_with (at_builtin; refine wpList_zeros _ rfl _ _ 26 3 rfl 5 (.int .u8 0) 1 1 .i64 Tryz.underlying26 Tryz.underlying3 Tryz.info5 rfl (by decide) (by simp [Value.cells, Value.oneCell']) hb.own rfl (32 * n) (by omega) rfl (by omega) (by decide) (by omega) ?_; intro ao1 c1 w1 hown1 hupd1 hin1; have hc1 := hb.cell1 hupd1; have hf1 := hb.free1 hupd1)
    have hH1 := hb.after hown1 hupd1 hin1
    have hU1 := hb.upd hupd1 (.slice ao1 (m + 32 * n) c1)
    clear hown1 hupd1 hc1 hf1
    generalize w1.setCell ⟨bp, 0, none⟩ (.slice ao1 (m + 32 * n) c1) = w2 at *
    obtain ⟨g, rfl⟩ := hH1.own.head (by omega)
    go_loopw [5, 30] (fun off i wr => ∃ k : Nat, k ≤ n ∧ i = .int .i64 k ∧ off = .int .i64 (m + 32 * k : Nat) ∧ Hold wr bp 46 5 1 (some ⟨g, 0, none⟩) (m + 32 * n) c1 (bs ++ (vs.take k).flatMap wbyte ++ List.replicate (32 * (n - k)) (.int .u8 0)) ∧ Upd (bp :: bk ao) w wr)
      (fun _ i _ => n - (intOf i).toNat)
    case atStart => exact ⟨0, Nat.zero_le _, rfl, rfl, by rw [show (Value.int .u8 0).cells = #[Value.int .u8 0] from rfl, zeroCells1] at hH1; simpa using hH1, hU1⟩
    case round =>
      obtain ⟨k, hk, rfl, rfl, hH, hU⟩ := hrel
      by_cases hlt : k < n
      · have hk0 : ((k : Int) < n) := by omega
        obtain ⟨bb, o, rfl, hr, hbb⟩ := hc.at_ (by omega)
        have hbn : bb ∉ bp :: bk ao := hap.not bb (by simp)
        obtain ⟨v, hv⟩ : ∃ v, v = vs[k]'(by omega) := ⟨_, rfl⟩
        have hvm : v ∈ vs := by rw [hv]; exact List.getElem_mem _
        have hrx : wr.rangeAt bb (o + k * 4) (wcell v) := fun j u hj => by
          have hj' : j < 4 := by rw [← hvs.cells v hvm]; exact (List.getElem?_eq_some_iff.1 hj).1
          have h2 := flat_get wcell 4 vs hvs.cells k (by omega) j hj'
          rw [hU.cell hbb hbn, Nat.add_assoc]
          refine hr (k * 4 + j) u (h2.trans ?_)
          rw [← hv]; exact hj
        have hlb := hvs.bytes v hvm
        obtain ⟨a, b, c, d, rfl⟩ := len4 (hvs v hvm).1
        have hrx' : wr.rangeAt bb (o + k * 4) [.int .u64 a, .int .u64 b, .int .u64 c, .int .u64 d] := hrx
        have hcb := hH.cell
        have hcap : m + 32 * k + 32 ≤ c1 := by have := hH.own.cap; omega
        have hu := Tryz.underlying156
        have hs : (Tryz.prog.info? 156).map (·.size) = some ([.int .u64 a, .int .u64 b, .int .u64 c, .int .u64 d] : List Value).length := size_ColInt256
        have HX := Lib.hid hv
        clear hv hrx
        go_wp2_with (first
          | ((with_reducible show wpList _ _ _ _ _ _); with_reducible refine wpList_load_mid rfl 156 _ rfl bb (o + k * 4) rfl [.int .u64 a, .int .u64 b, .int .u64 c, .int .u64 d] _ hrx' hu rfl hs ?_)
          | ((with_reducible show wpList _ _ _ _ _ _); with_reducible refine wpList_store_blk rfl 156 _ _ rfl (b := wr.heap.size) rfl (heap_alloc_new _ _) rfl rfl hs (by simp [Value.oneCell']) ?_; intro w3 hb3 hu3))
        have hu4 : Upd [] wr w3 := ((Upd.refl [] wr).alloc _).trans hu3 (fun y hy => by simp at hy; exact .inr (by omega))
        clear hu3
        have hH3 := hH.kept hu4 (by simp) (by simp)
        have hcb3 := hH3.cell
        have hb3l := lt_of_block hb3
        have hr3 : w3.rangeAt wr.heap.size 0 [.int .u64 a, .int .u64 b, .int .u64 c, .int .u64 d] := rangeAt_blk hb3
        simp only [Act.put]
        have hwr : IntKind.i64.wrap ((m : Int) + 32 * k + 32) = m + 32 * k + 32 := IntWalk.i64_in _ (by omega)
        refine wp_region_split (S := Upd [] w3) [(true, 0), (true, 1), (true, 2), (true, 3), (true, 4), (true, 5), (true, 6), (true, 7), (true, 8)] [] [9] (by kernel_rfl) (by kernel_rfl) (fun _ _ d _ _ h => by cases d <;> exact h) ((Upd.refl _ _).drew) ?_
        simp only [readsAt, opersAt, Option.map_some, List.filterMap_cons, List.filterMap_nil, List.getElem?_toArray, List.getElem?_cons_succ, List.getElem?_cons_zero]
        iterate 7 (refine ⟨_, Or.inl ⟨by rfl, fun w' hS => by first | (have q1 := Upd.cell1 hS hcb3 (by simp); first | (go_simp; done) | (go_simp; with_reducible rfl)) | (go_simp; done) | (go_simp; with_reducible rfl)⟩, ?_⟩; simp only [Act.put, List.setIfInBounds_toArray, List.set_cons_zero, List.set_cons_succ])
        refine ⟨_, yields_slice rfl 26 5 1 _ _ _ rfl Tryz.underlying26 (by kernel_rfl) g 0 _ _ rfl _ _ (m + 32 * k) (m + 32 * k + 32) rfl rfl (by omega) (by omega) (by omega) hcap (by omega) (m + 32 * k) 32 (c1 - (m + 32 * k)) (by omega) (by omega) rfl, ?_⟩
        simp only [Act.put, List.setIfInBounds_toArray, List.set_cons_zero, List.set_cons_succ]
        refine ⟨_, yieldsIf_load_mid (by rfl) 156 (.tmp 7) rfl wr.heap.size 0 rfl [.int .u64 a, .int .u64 b, .int .u64 c, .int .u64 d] _ (fun w' hS => Upd.range hS hr3 hb3l (by simp)) hu rfl hs, ?_⟩
        simp only [Act.put, List.setIfInBounds_toArray, List.set_cons_zero, List.set_cons_succ]
        simp only [readsThen, preThen]
        change wpList _ _ _ [_] _ _
        clear hwr
        go_wp2_with (go_at_call 270; (with_reducible refine (put256 g (m + 32 * k) 32 _ (m + 32 * n) c1 _ a b c d _ (World.ownsRow.drew hH3.own) ?_ (by omega) (by omega)).mono ?_); (· have := Nat.mul_le_mul_left 32 (show k + 1 ≤ n by omega); omega); rintro e wx ⟨rfl, hrow, hux⟩)
        have hstep : putAt (bs ++ (vs.take k).flatMap wbyte ++ List.replicate (32 * (n - k)) (.int .u8 0)) (m + 32 * k) (wbyte [a, b, c, d]) = bs ++ (vs.take (k + 1)).flatMap wbyte ++ List.replicate (32 * (n - (k + 1))) (.int .u8 0) := by
          rw [flatMap_take_succ _ _ _ (by omega), ← HX.out]
          refine enc_step (r := 32 * (n - (k + 1))) (m := 32) ?_ hlb ?_
          · congr 1; have : n - k = (n - (k + 1)) + 1 := by omega
            rw [this]; omega
          · rw [List.length_append, flatMap_len' wbyte 32 _ (fun a ha => hvs.bytes a (List.mem_of_mem_take ha)), List.length_take]; omega
        rw [hstep] at hrow
        have hux' : Upd [g] wr wx := (hu4.mono (by simp)).trans hux.ofDrew (fun _ h => .inl h)
        have hH' : Hold wx bp 46 5 1 (some ⟨g, 0, none⟩) (m + 32 * n) c1 (bs ++ (vs.take (k + 1)).flatMap wbyte ++ List.replicate (32 * (n - (k + 1))) (.int .u8 0)) := ⟨hux'.at hH.blk (fun h => hH.ne (by simpa using h)), hrow, hH.ne⟩
        have hU' : Upd (bp :: bk ao) w wx := hU.trans hux' (fun y hy => by
          simp at hy; subst hy
          rcases hin1 y (by simp) with h | h
          · exact .inl (List.mem_cons_of_mem _ h)
          · exact .inr h)
        clear hstep hrow hux hux' hH hU hH3 hcb3 hr3 hb3 hu4 hrx'
        go_roundw
        case rel => exact ⟨k + 1, by omega, by go_num, by simp; omega, hH', hU'⟩
        case measure => simp [intOf]; omega
      · have hk0 : n ≤ k := by omega
        obtain rfl : k = n := by omega
        go_wp2
        go_end0
        refine ⟨rfl, some ⟨g, 0, none⟩, c1, ?_, hU, hin1⟩
        rw [List.take_of_length_le (by omega), Nat.sub_self, Nat.mul_zero, List.replicate_zero, List.append_nil] at hH
        rw [Nat.mul_comm k 32]
        exact hH
set_option maxRecDepth 100000 in
set_option maxHeartbeats 1000000 in
theorem ColUInt256_EncodeColumn (ac : Option Addr) (n cc : Nat) (vs : List (List Int)) (hvs : Words 4 vs) (bp : Nat) (ao : Option Addr) (m cp : Nat) (bs : List Value) (w : World) (hc : View w 4 ac n (vs.flatMap wcell)) (hb : Hold w bp 46 5 1 ao m cp bs)
    (hap : Apart ac bp ao) (hn : n ≤ 1000000) (hm : m ≤ 100000000) :
    Calls Tryz.prog 332 #[.slice ac n cc, .pointer (some ⟨bp, 0, none⟩)] w fun e w' => e = .returned (.tuple #[]) ∧ Grew w w' bp 46 5 1 ao (m + n * 32) (bs ++ vs.flatMap wbyte) := by
  have hvl : vs.length = n := by have := hc.len; rw [flatMap_len' wcell 4 vs hvs.cells] at this; omega
  have hbl := hb.own.len
  by_cases h0 : n = 0
  · subst h0
    have hv0 : vs = [] := List.eq_nil_of_length_eq_zero hvl
    subst hv0
    go_enter Tryz.func332, Tryz.ntmps332
    go_wp2
    refine bodyPost_ret (results_none rfl _ _ _) rfl ?_
    exact ⟨rfl, ao, cp, by simpa using hb, Upd.refl _ _, In.self (fun _ h => h)⟩
  · have h1 : ((n : Int) == 0) = false := beq_eq_false_iff_ne.2 (by omega)
    have hc0 := hb.cell
    go_enter Tryz.func332, Tryz.ntmps332
    go_wp2_with (at_builtin; refine wpList_zeros _ rfl _ _ 26 3 rfl 5 (.int .u8 0) 1 1 .i64 Tryz.underlying26 Tryz.underlying3 Tryz.info5 rfl (by decide) (by simp [Value.cells, Value.oneCell']) hb.own rfl (32 * n) (by omega) rfl (by omega) (by decide) (by omega) ?_; intro ao1 c1 w1 hown1 hupd1 hin1; have hc1 := hb.cell1 hupd1; have hf1 := hb.free1 hupd1)
    have hH1 := hb.after hown1 hupd1 hin1
    have hU1 := hb.upd hupd1 (.slice ao1 (m + 32 * n) c1)
    clear hown1 hupd1 hc1 hf1
    generalize w1.setCell ⟨bp, 0, none⟩ (.slice ao1 (m + 32 * n) c1) = w2 at *
    obtain ⟨g, rfl⟩ := hH1.own.head (by omega)
    go_loopw [5, 30] (fun off i wr => ∃ k : Nat, k ≤ n ∧ i = .int .i64 k ∧ off = .int .i64 (m + 32 * k : Nat) ∧ Hold wr bp 46 5 1 (some ⟨g, 0, none⟩) (m + 32 * n) c1 (bs ++ (vs.take k).flatMap wbyte ++ List.replicate (32 * (n - k)) (.int .u8 0)) ∧ Upd (bp :: bk ao) w wr)
      (fun _ i _ => n - (intOf i).toNat)
    case atStart => exact ⟨0, Nat.zero_le _, rfl, rfl, by rw [show (Value.int .u8 0).cells = #[Value.int .u8 0] from rfl, zeroCells1] at hH1; simpa using hH1, hU1⟩
    case round =>
      obtain ⟨k, hk, rfl, rfl, hH, hU⟩ := hrel
      by_cases hlt : k < n
      · have hk0 : ((k : Int) < n) := by omega
        obtain ⟨bb, o, rfl, hr, hbb⟩ := hc.at_ (by omega)
        have hbn : bb ∉ bp :: bk ao := hap.not bb (by simp)
        obtain ⟨v, hv⟩ : ∃ v, v = vs[k]'(by omega) := ⟨_, rfl⟩
        have hvm : v ∈ vs := by rw [hv]; exact List.getElem_mem _
        have hrx : wr.rangeAt bb (o + k * 4) (wcell v) := fun j u hj => by
          have hj' : j < 4 := by rw [← hvs.cells v hvm]; exact (List.getElem?_eq_some_iff.1 hj).1
          have h2 := flat_get wcell 4 vs hvs.cells k (by omega) j hj'
          rw [hU.cell hbb hbn, Nat.add_assoc]
          refine hr (k * 4 + j) u (h2.trans ?_)
          rw [← hv]; exact hj
        have hlb := hvs.bytes v hvm
        obtain ⟨a, b, c, d, rfl⟩ := len4 (hvs v hvm).1
        have hrx' : wr.rangeAt bb (o + k * 4) [.int .u64 a, .int .u64 b, .int .u64 c, .int .u64 d] := hrx
        have hcb := hH.cell
        have hcap : m + 32 * k + 32 ≤ c1 := by have := hH.own.cap; omega
        have hu := Tryz.underlying244
        have hs : (Tryz.prog.info? 244).map (·.size) = some ([.int .u64 a, .int .u64 b, .int .u64 c, .int .u64 d] : List Value).length := size_ColUInt256
        have HX := Lib.hid hv
        clear hv hrx
        go_wp2_with (first
          | ((with_reducible show wpList _ _ _ _ _ _); with_reducible refine wpList_load_mid rfl 244 _ rfl bb (o + k * 4) rfl [.int .u64 a, .int .u64 b, .int .u64 c, .int .u64 d] _ hrx' hu rfl hs ?_)
          | ((with_reducible show wpList _ _ _ _ _ _); with_reducible refine wpList_store_blk rfl 244 _ _ rfl (b := wr.heap.size) rfl (heap_alloc_new _ _) rfl rfl hs (by simp [Value.oneCell']) ?_; intro w3 hb3 hu3))
        have hu4 : Upd [] wr w3 := ((Upd.refl [] wr).alloc _).trans hu3 (fun y hy => by simp at hy; exact .inr (by omega))
        clear hu3
        have hH3 := hH.kept hu4 (by simp) (by simp)
        have hcb3 := hH3.cell
        have hb3l := lt_of_block hb3
        have hr3 : w3.rangeAt wr.heap.size 0 [.int .u64 a, .int .u64 b, .int .u64 c, .int .u64 d] := rangeAt_blk hb3
        simp only [Act.put]
        have hwr : IntKind.i64.wrap ((m : Int) + 32 * k + 32) = m + 32 * k + 32 := IntWalk.i64_in _ (by omega)
        refine wp_region_split (S := Upd [] w3) [(true, 0), (true, 1), (true, 2), (true, 3), (true, 4), (true, 5), (true, 6), (true, 7), (true, 8)] [] [9] (by kernel_rfl) (by kernel_rfl) (fun _ _ d _ _ h => by cases d <;> exact h) ((Upd.refl _ _).drew) ?_
        simp only [readsAt, opersAt, Option.map_some, List.filterMap_cons, List.filterMap_nil, List.getElem?_toArray, List.getElem?_cons_succ, List.getElem?_cons_zero]
        iterate 7 (refine ⟨_, Or.inl ⟨by rfl, fun w' hS => by first | (have q1 := Upd.cell1 hS hcb3 (by simp); first | (go_simp; done) | (go_simp; with_reducible rfl)) | (go_simp; done) | (go_simp; with_reducible rfl)⟩, ?_⟩; simp only [Act.put, List.setIfInBounds_toArray, List.set_cons_zero, List.set_cons_succ])
        refine ⟨_, yields_slice rfl 26 5 1 _ _ _ rfl Tryz.underlying26 (by kernel_rfl) g 0 _ _ rfl _ _ (m + 32 * k) (m + 32 * k + 32) rfl rfl (by omega) (by omega) (by omega) hcap (by omega) (m + 32 * k) 32 (c1 - (m + 32 * k)) (by omega) (by omega) rfl, ?_⟩
        simp only [Act.put, List.setIfInBounds_toArray, List.set_cons_zero, List.set_cons_succ]
        refine ⟨_, yieldsIf_load_mid (by rfl) 244 (.tmp 7) rfl wr.heap.size 0 rfl [.int .u64 a, .int .u64 b, .int .u64 c, .int .u64 d] _ (fun w' hS => Upd.range hS hr3 hb3l (by simp)) hu rfl hs, ?_⟩
        simp only [Act.put, List.setIfInBounds_toArray, List.set_cons_zero, List.set_cons_succ]
        simp only [readsThen, preThen]
        change wpList _ _ _ [_] _ _
        clear hwr
        go_wp2_with (go_at_call 270; (with_reducible refine (put256 g (m + 32 * k) 32 _ (m + 32 * n) c1 _ a b c d _ (World.ownsRow.drew hH3.own) ?_ (by omega) (by omega)).mono ?_); (· have := Nat.mul_le_mul_left 32 (show k + 1 ≤ n by omega); omega); rintro e wx ⟨rfl, hrow, hux⟩)
        have hstep : putAt (bs ++ (vs.take k).flatMap wbyte ++ List.replicate (32 * (n - k)) (.int .u8 0)) (m + 32 * k) (wbyte [a, b, c, d]) = bs ++ (vs.take (k + 1)).flatMap wbyte ++ List.replicate (32 * (n - (k + 1))) (.int .u8 0) := by
          rw [flatMap_take_succ _ _ _ (by omega), ← HX.out]
          refine enc_step (r := 32 * (n - (k + 1))) (m := 32) ?_ hlb ?_
          · congr 1; have : n - k = (n - (k + 1)) + 1 := by omega
            rw [this]; omega
          · rw [List.length_append, flatMap_len' wbyte 32 _ (fun a ha => hvs.bytes a (List.mem_of_mem_take ha)), List.length_take]; omega
        rw [hstep] at hrow
        have hux' : Upd [g] wr wx := (hu4.mono (by simp)).trans hux.ofDrew (fun _ h => .inl h)
        have hH' : Hold wx bp 46 5 1 (some ⟨g, 0, none⟩) (m + 32 * n) c1 (bs ++ (vs.take (k + 1)).flatMap wbyte ++ List.replicate (32 * (n - (k + 1))) (.int .u8 0)) := ⟨hux'.at hH.blk (fun h => hH.ne (by simpa using h)), hrow, hH.ne⟩
        have hU' : Upd (bp :: bk ao) w wx := hU.trans hux' (fun y hy => by
          simp at hy; subst hy
          rcases hin1 y (by simp) with h | h
          · exact .inl (List.mem_cons_of_mem _ h)
          · exact .inr h)
        clear hstep hrow hux hux' hH hU hH3 hcb3 hr3 hb3 hu4 hrx'
        go_roundw
        case rel => exact ⟨k + 1, by omega, by go_num, by simp; omega, hH', hU'⟩
        case measure => simp [intOf]; omega
      · have hk0 : n ≤ k := by omega
        obtain rfl : k = n := by omega
        go_wp2
        go_end0
        refine ⟨rfl, some ⟨g, 0, none⟩, c1, ?_, hU, hin1⟩
        rw [List.take_of_length_le (by omega), Nat.sub_self, Nat.mul_zero, List.replicate_zero, List.append_nil] at hH
        rw [Nat.mul_comm k 32]
        exact hH
end Go.Proofs.YtfbohkbpgfnceaaGreatDoor
/- Columns of two or four words a row: DecodeColumn. -/
namespace Go.Proofs.YtfbohkbpgfnceaaGreatDoor
set_option linter.unusedVariables false
set_option linter.unusedSimpArgs false
open Go Go.RowKit
theorem flat_pieceA {α : Type} {f : α → List Value} {m : Nat} {w : World} {g : Nat} {l : List α} (h : w.rangeAt g 0 (l.flatMap f)) (hf : ∀ a ∈ l, (f a).length = m) (k : Nat) (hk : k < l.length) : w.rangeAt g (m * k) (f l[k]) := fun j v hj => by
  have hj' : j < m := by have := (List.getElem?_eq_some_iff.1 hj).1; rw [hf _ (List.getElem_mem _)] at this; exact this
  have h1 := flat_get f m l hf k hk j hj'
  have h2 := h (k * m + j) v (h1.trans hj)
  rw [Nat.zero_add, Nat.mul_comm k m] at h2
  exact h2
set_option maxRecDepth 100000 in
set_option maxHeartbeats 1000000 in
theorem ColInt128_DecodeColumn (p rd bf d : Nat) (ao : Option Addr) (n : Nat) (xs : List (List Int)) (hx : Words 2 xs) (rest : List Value) (w : World) (h : Rdr w rd bf d ao (xs.flatMap wbyte ++ rest)) (hn : xs.length = n) (h0 : 0 < n) (h30 : n ≤ 30)
    (hH : Hold w p 140 142 2 none 0 0 []) (ho : Off p rd bf d ao) :
    Calls Tryz.prog 247 #[.pointer (some ⟨p, 0, none⟩), .pointer (some ⟨rd, 0, none⟩), .int .i64 n] w fun e w' => e = .returned .nilIface ∧ Got w w' p 140 142 2 rd bf d ao n (xs.flatMap wcell) rest := by
  have hfl : (xs.flatMap wbyte).length = n * 16 := by rw [flatMap_len' wbyte 16 xs hx.bytes, hn]
  obtain ⟨N, hN⟩ : ∃ N, N = n * 16 := ⟨_, rfl⟩
  rw [← hN] at hfl
  have ht : (xs.flatMap wbyte ++ rest).take N = xs.flatMap wbyte := by rw [List.take_append_of_le_length (by omega), List.take_of_length_le (by omega)]
  have hd : (xs.flatMap wbyte ++ rest).drop N = rest := by rw [List.drop_append_of_le_length (by omega), List.drop_of_length_le (by omega), List.nil_append]
  have hLN : N ≤ (xs.flatMap wbyte ++ rest).length := by rw [List.length_append]; omega
  have h1 : ((n : Int) == 0) = false := beq_eq_false_iff_ne.2 (by omega)
  have hmul : IntKind.i64.wrap ((n : Int) * 16) = N := by rw [IntWalk.i64_in _ (by omega)]; omega
  have hsub : IntKind.i64.wrap ((N : Int) - 16) = N - 16 := IntWalk.i64_in _ (by omega)
  have hb1 : ((N : Int) - 16) < N := by omega
  have hb0 : 0 ≤ ((N : Int) - 16) := by omega
  have hpl := hH.lt
  have HN := Lib.hid hN
  clear hN
  go_enter Tryz.func247, Tryz.ntmps247
  go_wp2_with (go_at_call 205; apply stopHere)
  show Calls _ _ _ _ _
  refine (ReadRawB rd bf d N _ (by first | rfl | exact hmul | (have := HN.out; omega)) ao _ w h (by have := HN.out; omega) (by have := HN.out; omega) hLN).mono ?_
  rintro e w1 ⟨g, c1, rfl, hR1, hG1, hu1, hi1⟩
  dsimp only
  rw [ht] at hG1
  rw [hd] at hR1
  have hP1 := hH.kept hu1 ho.not (by simp)
  have q0 := hP1.cell
  have hr1 := hG1.own.view 0 (xs.flatMap wbyte) (fun j v hj => by rw [Nat.zero_add]; exact hj)
  have hgl : g < w1.heap.size := hG1.own.lt g (by simp)
  obtain ⟨u, hu⟩ : ∃ u, w1.cell? ⟨g, N - 16, none⟩ = some u := by
    obtain ⟨u, hu⟩ : ∃ u, (xs.flatMap wbyte)[N - 16]? = some u := ⟨(xs.flatMap wbyte)[N - 16]'(by have := HN.out; omega), by simp⟩
    exact ⟨u, by have := hr1 _ u hu; rwa [Nat.zero_add] at this⟩
  have hcap := hG1.own.cap.1
  go_wp2
  go_loopw [9, 10] (fun v i wr => ∃ (k : Nat) (av : Option Addr) (c : Nat), k ≤ n ∧ i = .int .i64 (16 * k : Nat) ∧ v = .slice av k c ∧ Row wr 142 2 av k c ((xs.take k).flatMap wcell) ∧ Upd [] w1 wr ∧ In [] w1.heap.size av)
    (fun _ i _ => N - (intOf i).toNat)
  case atStart => exact ⟨0, none, 0, Nat.zero_le _, rfl, rfl, Row.nil, Upd.refl _ _, In.nil⟩
  case round =>
    obtain ⟨k, av, c', hk, rfl, rfl, hown, hU, hI⟩ := hrel
    by_cases hlt : k < n
    · have hk0 : (16 : Int) * k ≤ N - 16 := by have := HN.out; omega
      have hwr : IntKind.i64.wrap ((16 : Int) * k + 16) = 16 * k + 16 := IntWalk.i64_in _ (by omega)
      have hpc := hU.range (flat_pieceA hr1 hx.bytes k (by omega)) hgl (by simp)
      have hgl' := Nat.lt_of_lt_of_le hgl hU.size
      obtain ⟨x, hxx⟩ : ∃ x, x = xs[k]'(by omega) := ⟨_, rfl⟩
      rw [← hxx] at hpc
      obtain ⟨hxl, hin0⟩ := hx x (by rw [hxx]; exact List.getElem_mem _)
      obtain ⟨a, b, rfl⟩ := len2 hxl
      have hin : ∀ y ∈ _, InU64 y := hin0
      have HX := Lib.hid hxx
      clear hxx hx hin0 hxl
      go_wp2_with (first
        | ((with_reducible show wpList _ _ _ _ _ _); refine wpList_slice rfl 26 5 1 _ _ _ rfl Tryz.underlying26 (by kernel_rfl) g 0 _ _ rfl _ _ (16 * k) (16 * k + 16) rfl rfl (by omega) (by omega) (by omega) (by have := HN.out; omega) (by have := HN.out; omega) (16 * k) 16 (c1 - 16 * k) (by omega) (by omega) rfl ?_; simp only [Act.put])
        | (go_at_call 254; (refine (get128 g (16 * k) _ a b (hin a (by simp)) (hin b (by simp)) _ hpc hgl' (by have := HN.out; omega)).mono ?_); rintro e w2 ⟨rfl, hu2⟩; have hown2 := hown.upd hu2 (by simp))
        | (at_builtin; refine wpList_app1 _ rfl _ _ 140 rfl 142 (.agg #[.int .u64 0, .int .u64 0]) 2 16 Tryz.underlying140 Tryz.info142 rfl (by decide) hown2 rfl [.int .u64 a, .int .u64 b] rfl rfl rfl (by simp [Value.oneCell']) (by decide) (by omega) ?_; intro av3 c3 w3 hown3 hupd3 hin3))
      have hU2 : Upd [] w1 w2 := hU.trans hu2 (fun _ h => .inl h)
      have hU3 : Upd [] w1 w3 := hU2.own hupd3 hI
      have hI3 : In [] w1.heap.size av3 := hI.step hin3 hU2.size
      have hR3 : Row w3 142 2 av3 (k + 1) c3 ((xs.take (k + 1)).flatMap wcell) := by
        rw [flatMap_take_succ _ _ _ (by omega), ← HX.out]
        exact hown3
      clear hown hown2 hown3 hpc hupd3 hin3
      go_roundw
      case rel => exact ⟨k + 1, av3, c3, by omega, by simp; omega, rfl, hR3, hU3, hI3⟩
      case measure => have := HN.out; simp [intOf]; omega
    · have hk0 : ¬ ((16 : Int) * k ≤ N - 16) := by have := HN.out; omega
      obtain rfl : k = n := by omega
      rw [List.take_of_length_le (by omega)] at hown
      have hP2 := hP1.kept hU (by simp) (by simp)
      have p0 := hP2.cell
      have pf := hP2.free
      go_wp2
      go_ret
      have hpo : Off p rd bf d (some ⟨g, 0, none⟩) := ho.step hi1 hpl
      have hs1 : w.heap.size ≤ w1.heap.size := hu1.size
      have hne : p ∉ bk av := fun hp => by
        rcases hI p hp with h | h
        · simp at h
        · omega
      have hsc := (Upd.refl [p] wr).setCell (p := ⟨p, 0, none⟩) (Value.slice av k c') (by simp)
      refine ⟨rfl, av, c', some ⟨g, 0, none⟩, Hold.stored hP2.blk hown hne, (hR1.kept hU (by simp)).keptK hsc hpo, ?_, hI.le hs1, hi1, fun y hy hy' => ?_⟩
      · exact ((hu1.mono (fun y hy => .inl (List.mem_cons_of_mem _ hy))).trans hU (fun _ h => by simp at h)).setCell _ (by simp)
      · have hyl : w1.heap.size ≤ y := by
          rcases hI y hy with h | h
          · simp at h
          · exact h
        have hl1 := hR1.ltr
        have hl2 := hR1.ltb
        simp [rdF] at hy'
        rcases hy' with h | h | h <;> omega
set_option maxRecDepth 100000 in
set_option maxHeartbeats 1000000 in
theorem ColUInt128_DecodeColumn (p rd bf d : Nat) (ao : Option Addr) (n : Nat) (xs : List (List Int)) (hx : Words 2 xs) (rest : List Value) (w : World) (h : Rdr w rd bf d ao (xs.flatMap wbyte ++ rest)) (hn : xs.length = n) (h0 : 0 < n) (h30 : n ≤ 30)
    (hH : Hold w p 235 143 2 none 0 0 []) (ho : Off p rd bf d ao) :
    Calls Tryz.prog 320 #[.pointer (some ⟨p, 0, none⟩), .pointer (some ⟨rd, 0, none⟩), .int .i64 n] w fun e w' => e = .returned .nilIface ∧ Got w w' p 235 143 2 rd bf d ao n (xs.flatMap wcell) rest := by
  have hfl : (xs.flatMap wbyte).length = n * 16 := by rw [flatMap_len' wbyte 16 xs hx.bytes, hn]
  obtain ⟨N, hN⟩ : ∃ N, N = n * 16 := ⟨_, rfl⟩
  rw [← hN] at hfl
  have ht : (xs.flatMap wbyte ++ rest).take N = xs.flatMap wbyte := by rw [List.take_append_of_le_length (by omega), List.take_of_length_le (by omega)]
  have hd : (xs.flatMap wbyte ++ rest).drop N = rest := by rw [List.drop_append_of_le_length (by omega), List.drop_of_length_le (by omega), List.nil_append]
  have hLN : N ≤ (xs.flatMap wbyte ++ rest).length := by rw [List.length_append]; omega
  have h1 : ((n : Int) == 0) = false := beq_eq_false_iff_ne.2 (by omega)
  have hmul : IntKind.i64.wrap ((n : Int) * 16) = N := by rw [IntWalk.i64_in _ (by omega)]; omega
  have hsub : IntKind.i64.wrap ((N : Int) - 16) = N - 16 := IntWalk.i64_in _ (by omega)
  have hb1 : ((N : Int) - 16) < N := by omega
  have hb0 : 0 ≤ ((N : Int) - 16) := by omega
  have hpl := hH.lt
  have HN := Lib.hid hN
  clear hN
  go_enter Tryz.func320, Tryz.ntmps320
  go_wp2_with (go_at_call 205; apply stopHere)
  show Calls _ _ _ _ _
  refine (ReadRawB rd bf d N _ (by first | rfl | exact hmul | (have := HN.out; omega)) ao _ w h (by have := HN.out; omega) (by have := HN.out; omega) hLN).mono ?_
  rintro e w1 ⟨g, c1, rfl, hR1, hG1, hu1, hi1⟩
  dsimp only
  rw [ht] at hG1
  rw [hd] at hR1
  have hP1 := hH.kept hu1 ho.not (by simp)
  have q0 := hP1.cell
  have hr1 := hG1.own.view 0 (xs.flatMap wbyte) (fun j v hj => by rw [Nat.zero_add]; exact hj)
  have hgl : g < w1.heap.size := hG1.own.lt g (by simp)
  obtain ⟨u, hu⟩ : ∃ u, w1.cell? ⟨g, N - 16, none⟩ = some u := by
    obtain ⟨u, hu⟩ : ∃ u, (xs.flatMap wbyte)[N - 16]? = some u := ⟨(xs.flatMap wbyte)[N - 16]'(by have := HN.out; omega), by simp⟩
    exact ⟨u, by have := hr1 _ u hu; rwa [Nat.zero_add] at this⟩
  have hcap := hG1.own.cap.1
  go_wp2
  go_loopw [9, 10] (fun v i wr => ∃ (k : Nat) (av : Option Addr) (c : Nat), k ≤ n ∧ i = .int .i64 (16 * k : Nat) ∧ v = .slice av k c ∧ Row wr 143 2 av k c ((xs.take k).flatMap wcell) ∧ Upd [] w1 wr ∧ In [] w1.heap.size av)
    (fun _ i _ => N - (intOf i).toNat)
  case atStart => exact ⟨0, none, 0, Nat.zero_le _, rfl, rfl, Row.nil, Upd.refl _ _, In.nil⟩
  case round =>
    obtain ⟨k, av, c', hk, rfl, rfl, hown, hU, hI⟩ := hrel
    by_cases hlt : k < n
    · have hk0 : (16 : Int) * k ≤ N - 16 := by have := HN.out; omega
      have hwr : IntKind.i64.wrap ((16 : Int) * k + 16) = 16 * k + 16 := IntWalk.i64_in _ (by omega)
      have hpc := hU.range (flat_pieceA hr1 hx.bytes k (by omega)) hgl (by simp)
      have hgl' := Nat.lt_of_lt_of_le hgl hU.size
      obtain ⟨x, hxx⟩ : ∃ x, x = xs[k]'(by omega) := ⟨_, rfl⟩
      rw [← hxx] at hpc
      obtain ⟨hxl, hin0⟩ := hx x (by rw [hxx]; exact List.getElem_mem _)
      obtain ⟨a, b, rfl⟩ := len2 hxl
      have hin : ∀ y ∈ _, InU64 y := hin0
      have HX := Lib.hid hxx
      clear hxx hx hin0 hxl
      go_wp2_with (first
        | ((with_reducible show wpList _ _ _ _ _ _); refine wpList_slice rfl 26 5 1 _ _ _ rfl Tryz.underlying26 (by kernel_rfl) g 0 _ _ rfl _ _ (16 * k) (16 * k + 16) rfl rfl (by omega) (by omega) (by omega) (by have := HN.out; omega) (by have := HN.out; omega) (16 * k) 16 (c1 - 16 * k) (by omega) (by omega) rfl ?_; simp only [Act.put])
        | (go_at_call 254; (refine (get128 g (16 * k) _ a b (hin a (by simp)) (hin b (by simp)) _ hpc hgl' (by have := HN.out; omega)).mono ?_); rintro e w2 ⟨rfl, hu2⟩; have hown2 := hown.upd hu2 (by simp))
        | (at_builtin; refine wpList_app1 _ rfl _ _ 235 rfl 143 (.agg #[.int .u64 0, .int .u64 0]) 2 16 Tryz.underlying235 Tryz.info143 rfl (by decide) hown2 rfl [.int .u64 a, .int .u64 b] rfl rfl rfl (by simp [Value.oneCell']) (by decide) (by omega) ?_; intro av3 c3 w3 hown3 hupd3 hin3))
      have hU2 : Upd [] w1 w2 := hU.trans hu2 (fun _ h => .inl h)
      have hU3 : Upd [] w1 w3 := hU2.own hupd3 hI
      have hI3 : In [] w1.heap.size av3 := hI.step hin3 hU2.size
      have hR3 : Row w3 143 2 av3 (k + 1) c3 ((xs.take (k + 1)).flatMap wcell) := by
        rw [flatMap_take_succ _ _ _ (by omega), ← HX.out]
        exact hown3
      clear hown hown2 hown3 hpc hupd3 hin3
      go_roundw
      case rel => exact ⟨k + 1, av3, c3, by omega, by simp; omega, rfl, hR3, hU3, hI3⟩
      case measure => have := HN.out; simp [intOf]; omega
    · have hk0 : ¬ ((16 : Int) * k ≤ N - 16) := by have := HN.out; omega
      obtain rfl : k = n := by omega
      rw [List.take_of_length_le (by omega)] at hown
      have hP2 := hP1.kept hU (by simp) (by simp)
      have p0 := hP2.cell
      have pf := hP2.free
      go_wp2
      go_ret
      have hpo : Off p rd bf d (some ⟨g, 0, none⟩) := ho.step hi1 hpl
      have hs1 : w.heap.size ≤ w1.heap.size := hu1.size
      have hne : p ∉ bk av := fun hp => by
        rcases hI p hp with h | h
        · simp at h
        · omega
      have hsc := (Upd.refl [p] wr).setCell (p := ⟨p, 0, none⟩) (Value.slice av k c') (by simp)
      refine ⟨rfl, av, c', some ⟨g, 0, none⟩, Hold.stored hP2.blk hown hne, (hR1.kept hU (by simp)).keptK hsc hpo, ?_, hI.le hs1, hi1, fun y hy hy' => ?_⟩
      · exact ((hu1.mono (fun y hy => .inl (List.mem_cons_of_mem _ hy))).trans hU (fun _ h => by simp at h)).setCell _ (by simp)
      · have hyl : w1.heap.size ≤ y := by
          rcases hI y hy with h | h
          · simp at h
          · exact h
        have hl1 := hR1.ltr
        have hl2 := hR1.ltb
        simp [rdF] at hy'
        rcases hy' with h | h | h <;> omega
set_option maxRecDepth 100000 in
set_option maxHeartbeats 1000000 in
theorem ColInt256_DecodeColumn (p rd bf d : Nat) (ao : Option Addr) (n : Nat) (xs : List (List Int)) (hx : Words 4 xs) (rest : List Value) (w : World) (h : Rdr w rd bf d ao (xs.flatMap wbyte ++ rest)) (hn : xs.length = n) (h0 : 0 < n) (h30 : n ≤ 30)
    (hH : Hold w p 154 156 4 none 0 0 []) (ho : Off p rd bf d ao) :
    Calls Tryz.prog 262 #[.pointer (some ⟨p, 0, none⟩), .pointer (some ⟨rd, 0, none⟩), .int .i64 n] w fun e w' => e = .returned .nilIface ∧ Got w w' p 154 156 4 rd bf d ao n (xs.flatMap wcell) rest := by
  have hfl : (xs.flatMap wbyte).length = n * 32 := by rw [flatMap_len' wbyte 32 xs hx.bytes, hn]
  obtain ⟨N, hN⟩ : ∃ N, N = n * 32 := ⟨_, rfl⟩
  rw [← hN] at hfl
  have ht : (xs.flatMap wbyte ++ rest).take N = xs.flatMap wbyte := by rw [List.take_append_of_le_length (by omega), List.take_of_length_le (by omega)]
  have hd : (xs.flatMap wbyte ++ rest).drop N = rest := by rw [List.drop_append_of_le_length (by omega), List.drop_of_length_le (by omega), List.nil_append]
  have hLN : N ≤ (xs.flatMap wbyte ++ rest).length := by rw [List.length_append]; omega
  have h1 : ((n : Int) == 0) = false := beq_eq_false_iff_ne.2 (by omega)
  have hmul : IntKind.i64.wrap ((n : Int) * 32) = N := by rw [IntWalk.i64_in _ (by omega)]; omega
  have hsub : IntKind.i64.wrap ((N : Int) - 32) = N - 32 := IntWalk.i64_in _ (by omega)
  have hb1 : ((N : Int) - 32) < N := by omega
  have hb0 : 0 ≤ ((N : Int) - 32) := by omega
  have hpl := hH.lt
  have HN := Lib.hid hN
  clear hN
  go_enter Tryz.func262, Tryz.ntmps262
  go_wp2_with (go_at_call 205; apply stopHere)
  show Calls _ _ _ _ _
  refine (ReadRawB rd bf d N _ (by first | rfl | exact hmul | (have := HN.out; omega)) ao _ w h (by have := HN.out; omega) (by have := HN.out; omega) hLN).mono ?_
  rintro e w1 ⟨g, c1, rfl, hR1, hG1, hu1, hi1⟩
  dsimp only
  rw [ht] at hG1
  rw [hd] at hR1
  have hP1 := hH.kept hu1 ho.not (by simp)
  have q0 := hP1.cell
  have hr1 := hG1.own.view 0 (xs.flatMap wbyte) (fun j v hj => by rw [Nat.zero_add]; exact hj)
  have hgl : g < w1.heap.size := hG1.own.lt g (by simp)
  obtain ⟨u, hu⟩ : ∃ u, w1.cell? ⟨g, N - 32, none⟩ = some u := by
    obtain ⟨u, hu⟩ : ∃ u, (xs.flatMap wbyte)[N - 32]? = some u := ⟨(xs.flatMap wbyte)[N - 32]'(by have := HN.out; omega), by simp⟩
    exact ⟨u, by have := hr1 _ u hu; rwa [Nat.zero_add] at this⟩
  have hcap := hG1.own.cap.1
  go_wp2
  go_loopw [9, 10] (fun v i wr => ∃ (k : Nat) (av : Option Addr) (c : Nat), k ≤ n ∧ i = .int .i64 (32 * k : Nat) ∧ v = .slice av k c ∧ Row wr 156 4 av k c ((xs.take k).flatMap wcell) ∧ Upd [] w1 wr ∧ In [] w1.heap.size av)
    (fun _ i _ => N - (intOf i).toNat)
  case atStart => exact ⟨0, none, 0, Nat.zero_le _, rfl, rfl, Row.nil, Upd.refl _ _, In.nil⟩
  case round =>
    obtain ⟨k, av, c', hk, rfl, rfl, hown, hU, hI⟩ := hrel
    by_cases hlt : k < n
    · have hk0 : (32 : Int) * k ≤ N - 32 := by have := HN.out; omega
      have hwr : IntKind.i64.wrap ((32 : Int) * k + 32) = 32 * k + 32 := IntWalk.i64_in _ (by omega)
      have hpc := hU.range (flat_pieceA hr1 hx.bytes k (by omega)) hgl (by simp)
      have hgl' := Nat.lt_of_lt_of_le hgl hU.size
      obtain ⟨x, hxx⟩ : ∃ x, x = xs[k]'(by omega) := ⟨_, rfl⟩
      rw [← hxx] at hpc
      obtain ⟨hxl, hin0⟩ := hx x (by rw [hxx]; exact List.getElem_mem _)
      obtain ⟨a, b, c, d', rfl⟩ := len4 hxl
      have hin : ∀ y ∈ _, InU64 y := hin0
      have HX := Lib.hid hxx
      clear hxx hx hin0 hxl
      go_wp2_with (first
        | ((with_reducible show wpList _ _ _ _ _ _); refine wpList_slice rfl 26 5 1 _ _ _ rfl Tryz.underlying26 (by kernel_rfl) g 0 _ _ rfl _ _ (32 * k) (32 * k + 32) rfl rfl (by omega) (by omega) (by omega) (by have := HN.out; omega) (by have := HN.out; omega) (32 * k) 32 (c1 - 32 * k) (by omega) (by omega) rfl ?_; simp only [Act.put])
        | (go_at_call 269; (refine (get256 g (32 * k) _ a b c d' (hin a (by simp)) (hin b (by simp)) (hin c (by simp)) (hin d' (by simp)) _ hpc hgl' (by have := HN.out; omega)).mono ?_); rintro e w2 ⟨rfl, hu2⟩; have hown2 := hown.upd hu2 (by simp))
        | (at_builtin; refine wpList_app1 _ rfl _ _ 154 rfl 156 (.agg #[.int .u64 0, .int .u64 0, .int .u64 0, .int .u64 0]) 4 32 Tryz.underlying154 Tryz.info156 rfl (by decide) hown2 rfl [.int .u64 a, .int .u64 b, .int .u64 c, .int .u64 d'] rfl rfl rfl (by simp [Value.oneCell']) (by decide) (by omega) ?_; intro av3 c3 w3 hown3 hupd3 hin3))
      have hU2 : Upd [] w1 w2 := hU.trans hu2 (fun _ h => .inl h)
      have hU3 : Upd [] w1 w3 := hU2.own hupd3 hI
      have hI3 : In [] w1.heap.size av3 := hI.step hin3 hU2.size
      have hR3 : Row w3 156 4 av3 (k + 1) c3 ((xs.take (k + 1)).flatMap wcell) := by
        rw [flatMap_take_succ _ _ _ (by omega), ← HX.out]
        exact hown3
      clear hown hown2 hown3 hpc hupd3 hin3
      go_roundw
      case rel => exact ⟨k + 1, av3, c3, by omega, by simp; omega, rfl, hR3, hU3, hI3⟩
      case measure => have := HN.out; simp [intOf]; omega
    · have hk0 : ¬ ((32 : Int) * k ≤ N - 32) := by have := HN.out; omega
      obtain rfl : k = n := by omega
      rw [List.take_of_length_le (by omega)] at hown
      have hP2 := hP1.kept hU (by simp) (by simp)
      have p0 := hP2.cell
      have pf := hP2.free
      go_wp2
      go_ret
      have hpo : Off p rd bf d (some ⟨g, 0, none⟩) := ho.step hi1 hpl
      have hs1 : w.heap.size ≤ w1.heap.size := hu1.size
      have hne : p ∉ bk av := fun hp => by
        rcases hI p hp with h | h
        · simp at h
        · omega
      have hsc := (Upd.refl [p] wr).setCell (p := ⟨p, 0, none⟩) (Value.slice av k c') (by simp)
      refine ⟨rfl, av, c', some ⟨g, 0, none⟩, Hold.stored hP2.blk hown hne, (hR1.kept hU (by simp)).keptK hsc hpo, ?_, hI.le hs1, hi1, fun y hy hy' => ?_⟩
      · exact ((hu1.mono (fun y hy => .inl (List.mem_cons_of_mem _ hy))).trans hU (fun _ h => by simp at h)).setCell _ (by simp)
      · have hyl : w1.heap.size ≤ y := by
          rcases hI y hy with h | h
          · simp at h
          · exact h
        have hl1 := hR1.ltr
        have hl2 := hR1.ltb
        simp [rdF] at hy'
        rcases hy' with h | h | h <;> omega
set_option maxRecDepth 100000 in
set_option maxHeartbeats 1000000 in
theorem ColUInt256_DecodeColumn (p rd bf d : Nat) (ao : Option Addr) (n : Nat) (xs : List (List Int)) (hx : Words 4 xs) (rest : List Value) (w : World) (h : Rdr w rd bf d ao (xs.flatMap wbyte ++ rest)) (hn : xs.length = n) (h0 : 0 < n) (h30 : n ≤ 30)
    (hH : Hold w p 243 244 4 none 0 0 []) (ho : Off p rd bf d ao) :
    Calls Tryz.prog 331 #[.pointer (some ⟨p, 0, none⟩), .pointer (some ⟨rd, 0, none⟩), .int .i64 n] w fun e w' => e = .returned .nilIface ∧ Got w w' p 243 244 4 rd bf d ao n (xs.flatMap wcell) rest := by
  have hfl : (xs.flatMap wbyte).length = n * 32 := by rw [flatMap_len' wbyte 32 xs hx.bytes, hn]
  obtain ⟨N, hN⟩ : ∃ N, N = n * 32 := ⟨_, rfl⟩
  rw [← hN] at hfl
  have ht : (xs.flatMap wbyte ++ rest).take N = xs.flatMap wbyte := by rw [List.take_append_of_le_length (by omega), List.take_of_length_le (by omega)]
  have hd : (xs.flatMap wbyte ++ rest).drop N = rest := by rw [List.drop_append_of_le_length (by omega), List.drop_of_length_le (by omega), List.nil_append]
  have hLN : N ≤ (xs.flatMap wbyte ++ rest).length := by rw [List.length_append]; omega
  have h1 : ((n : Int) == 0) = false := beq_eq_false_iff_ne.2 (by omega)
  have hmul : IntKind.i64.wrap ((n : Int) * 32) = N := by rw [IntWalk.i64_in _ (by omega)]; omega
  have hsub : IntKind.i64.wrap ((N : Int) - 32) = N - 32 := IntWalk.i64_in _ (by omega)
  have hb1 : ((N : Int) - 32) < N := by omega
  have hb0 : 0 ≤ ((N : Int) - 32) := by omega
  have hpl := hH.lt
  have HN := Lib.hid hN
  clear hN
  go_enter Tryz.func331, Tryz.ntmps331
  go_wp2_with (go_at_call 205; apply stopHere)
  show Calls _ _ _ _ _
  refine (ReadRawB rd bf d N _ (by first | rfl | exact hmul | (have := HN.out; omega)) ao _ w h (by have := HN.out; omega) (by have := HN.out; omega) hLN).mono ?_
  rintro e w1 ⟨g, c1, rfl, hR1, hG1, hu1, hi1⟩
  dsimp only
  rw [ht] at hG1
  rw [hd] at hR1
  have hP1 := hH.kept hu1 ho.not (by simp)
  have q0 := hP1.cell
  have hr1 := hG1.own.view 0 (xs.flatMap wbyte) (fun j v hj => by rw [Nat.zero_add]; exact hj)
  have hgl : g < w1.heap.size := hG1.own.lt g (by simp)
  obtain ⟨u, hu⟩ : ∃ u, w1.cell? ⟨g, N - 32, none⟩ = some u := by
    obtain ⟨u, hu⟩ : ∃ u, (xs.flatMap wbyte)[N - 32]? = some u := ⟨(xs.flatMap wbyte)[N - 32]'(by have := HN.out; omega), by simp⟩
    exact ⟨u, by have := hr1 _ u hu; rwa [Nat.zero_add] at this⟩
  have hcap := hG1.own.cap.1
  go_wp2
  go_loopw [9, 10] (fun v i wr => ∃ (k : Nat) (av : Option Addr) (c : Nat), k ≤ n ∧ i = .int .i64 (32 * k : Nat) ∧ v = .slice av k c ∧ Row wr 244 4 av k c ((xs.take k).flatMap wcell) ∧ Upd [] w1 wr ∧ In [] w1.heap.size av)
    (fun _ i _ => N - (intOf i).toNat)
  case atStart => exact ⟨0, none, 0, Nat.zero_le _, rfl, rfl, Row.nil, Upd.refl _ _, In.nil⟩
  case round =>
    obtain ⟨k, av, c', hk, rfl, rfl, hown, hU, hI⟩ := hrel
    by_cases hlt : k < n
    · have hk0 : (32 : Int) * k ≤ N - 32 := by have := HN.out; omega
      have hwr : IntKind.i64.wrap ((32 : Int) * k + 32) = 32 * k + 32 := IntWalk.i64_in _ (by omega)
      have hpc := hU.range (flat_pieceA hr1 hx.bytes k (by omega)) hgl (by simp)
      have hgl' := Nat.lt_of_lt_of_le hgl hU.size
      obtain ⟨x, hxx⟩ : ∃ x, x = xs[k]'(by omega) := ⟨_, rfl⟩
      rw [← hxx] at hpc
      obtain ⟨hxl, hin0⟩ := hx x (by rw [hxx]; exact List.getElem_mem _)
      obtain ⟨a, b, c, d', rfl⟩ := len4 hxl
      have hin : ∀ y ∈ _, InU64 y := hin0
      have HX := Lib.hid hxx
      clear hxx hx hin0 hxl
      go_wp2_with (first
        | ((with_reducible show wpList _ _ _ _ _ _); refine wpList_slice rfl 26 5 1 _ _ _ rfl Tryz.underlying26 (by kernel_rfl) g 0 _ _ rfl _ _ (32 * k) (32 * k + 32) rfl rfl (by omega) (by omega) (by omega) (by have := HN.out; omega) (by have := HN.out; omega) (32 * k) 32 (c1 - 32 * k) (by omega) (by omega) rfl ?_; simp only [Act.put])
        | (go_at_call 269; (refine (get256 g (32 * k) _ a b c d' (hin a (by simp)) (hin b (by simp)) (hin c (by simp)) (hin d' (by simp)) _ hpc hgl' (by have := HN.out; omega)).mono ?_); rintro e w2 ⟨rfl, hu2⟩; have hown2 := hown.upd hu2 (by simp))
        | (at_builtin; refine wpList_app1 _ rfl _ _ 243 rfl 244 (.agg #[.int .u64 0, .int .u64 0, .int .u64 0, .int .u64 0]) 4 32 Tryz.underlying243 Tryz.info244 rfl (by decide) hown2 rfl [.int .u64 a, .int .u64 b, .int .u64 c, .int .u64 d'] rfl rfl rfl (by simp [Value.oneCell']) (by decide) (by omega) ?_; intro av3 c3 w3 hown3 hupd3 hin3))
      have hU2 : Upd [] w1 w2 := hU.trans hu2 (fun _ h => .inl h)
      have hU3 : Upd [] w1 w3 := hU2.own hupd3 hI
      have hI3 : In [] w1.heap.size av3 := hI.step hin3 hU2.size
      have hR3 : Row w3 244 4 av3 (k + 1) c3 ((xs.take (k + 1)).flatMap wcell) := by
        rw [flatMap_take_succ _ _ _ (by omega), ← HX.out]
        exact hown3
      clear hown hown2 hown3 hpc hupd3 hin3
      go_roundw
      case rel => exact ⟨k + 1, av3, c3, by omega, by simp; omega, rfl, hR3, hU3, hI3⟩
      case measure => have := HN.out; simp [intOf]; omega
    · have hk0 : ¬ ((32 : Int) * k ≤ N - 32) := by have := HN.out; omega
      obtain rfl : k = n := by omega
      rw [List.take_of_length_le (by omega)] at hown
      have hP2 := hP1.kept hU (by simp) (by simp)
      have p0 := hP2.cell
      have pf := hP2.free
      go_wp2
      go_ret
      have hpo : Off p rd bf d (some ⟨g, 0, none⟩) := ho.step hi1 hpl
      have hs1 : w.heap.size ≤ w1.heap.size := hu1.size
      have hne : p ∉ bk av := fun hp => by
        rcases hI p hp with h | h
        · simp at h
        · omega
      have hsc := (Upd.refl [p] wr).setCell (p := ⟨p, 0, none⟩) (Value.slice av k c') (by simp)
      refine ⟨rfl, av, c', some ⟨g, 0, none⟩, Hold.stored hP2.blk hown hne, (hR1.kept hU (by simp)).keptK hsc hpo, ?_, hI.le hs1, hi1, fun y hy hy' => ?_⟩
      · exact ((hu1.mono (fun y hy => .inl (List.mem_cons_of_mem _ hy))).trans hU (fun _ h => by simp at h)).setCell _ (by simp)
      · have hyl : w1.heap.size ≤ y := by
          rcases hI y hy with h | h
          · simp at h
          · exact h
        have hl1 := hR1.ltr
        have hl2 := hR1.ltb
        simp [rdF] at hy'
        rcases hy' with h | h | h <;> omega
end Go.Proofs.YtfbohkbpgfnceaaGreatDoor
/- The column of IPv6 addresses: Append, EncodeColumn, DecodeColumn. -/
namespace Go.Proofs.YtfbohkbpgfnceaaGreatDoor
set_option linter.unusedVariables false
set_option linter.unusedSimpArgs false
open Go Go.RowKit
/-- every one is of n bytes -/
def Arrs (n : Nat) (vs : List (List Value)) : Prop := ∀ v ∈ vs, v.length = n ∧ ∀ u ∈ v, u.oneCell' = true

theorem Tryz.info296 : (Tryz.prog.info? 296).map (fun i => (i.zero, i.size, i.bytes)) = some (some (.agg (Array.replicate 16 (.int .u8 0))), 16, 16) := by kernel_rfl
theorem size_ColIPv6 : (Tryz.prog.info? 296).map (·.size) = some 16 := by kernel_rfl
set_option maxRecDepth 100000 in
set_option maxHeartbeats 400000 in
theorem ColIPv6_Append (p : Nat) (ao : Option Addr) (n c : Nat) (xs : List Value) (x : List Value) (w : World) (h : Hold w p 294 296 16 ao n c xs) (hn : n ≤ 1000000) (hx : x.length = 16) (hx1 : ∀ u ∈ x, u.oneCell' = true) :
    Calls Tryz.prog 397 #[.pointer (some ⟨p, 0, none⟩), .agg x.toArray] w fun e w' => e = .returned (.tuple #[]) ∧ Grew w w' p 294 296 16 ao (n + 1) (xs ++ x) := by
  have hc := h.cell
  have hs : (Tryz.prog.info? 296).map (·.size) = some x.length := by rw [hx]; exact size_ColIPv6
  have hu := Tryz.underlying296
  go_enter Tryz.func397, Tryz.ntmps397
  go_wp2
  have hr : (w.alloc (.cells x.toArray 296)).rangeAt w.heap.size 0 x := rangeAt_blk (heap_alloc_new _ _)
  have hh : Hold (w.alloc (.cells x.toArray 296)) p 294 296 16 ao n c xs := h.kept ((Upd.refl [] w).alloc _) (by simp) (by simp)
  have hlt : w.heap.size < (w.alloc (.cells x.toArray 296)).heap.size := by simp
  have hup := (Upd.refl [] w).alloc (.cells x.toArray 296)
  generalize w.alloc (.cells x.toArray 296) = W at *
  have hc' := hh.cell
  have hpl := hh.lt
  refine wp_region_split (S := Upd [] W) [(false, 0), (true, 1), (true, 2), (true, 3), (true, 4)] [5] [6, 7, 8] (by kernel_rfl) (by kernel_rfl) (fun _ _ d _ _ h => by cases d <;> exact h) ((Upd.refl _ _).drew) ?_
  simp only [readsAt, opersAt, Option.map_some, List.filterMap_cons, List.filterMap_nil, List.getElem?_toArray, List.getElem?_cons_succ, List.getElem?_cons_zero]
  iterate 4 (refine ⟨_, Or.inl ⟨by rfl, fun w' hS => by first | (have hc1 := Upd.cell1 hS hc' (by simp); first | (go_simp; done) | (go_simp; with_reducible rfl)) | (go_simp; done) | (go_simp; with_reducible rfl)⟩, ?_⟩; simp only [Act.put, List.setIfInBounds_toArray, List.set_cons_zero, List.set_cons_succ])
  refine ⟨_, yieldsIf_load_mid (by rfl) _ _ rfl _ _ rfl x _ (fun w' hS => Upd.range hS hr hlt (by simp)) hu rfl hs, ?_⟩
  simp only [Act.put, List.setIfInBounds_toArray, List.set_cons_zero, List.set_cons_succ]
  intro L0 hL0
  rw [if_pos (by rfl)]
  go_simp; rw [foldl_set _ _ hx]
  refine hL0 _ _ ⟨by exact ((Upd.refl _ _).alloc _).drew, ?_⟩
  clear hL0 L0
  try simp only [preThen]
  change wpList _ _ _ [_, _, _] _ _
  go_wp2_with (at_builtin; refine wpList_app1d _ rfl _ _ 294 rfl 296 _ 16 16 Tryz.underlying294 Tryz.info296 rfl (by decide) hh.own rfl x rfl hx rfl hx1 (by decide) (by omega) ?_; intro ao1 c1 w1 hown1 hupd1 hin1; have hc1 := hh.cell1 hupd1; have hf1 := hh.free1 hupd1)
  go_end0
  exact ⟨rfl, _, _, hh.after hown1 hupd1 hin1, (hup.mono (by simp)).trans (hh.upd hupd1 _) (fun _ h => .inl h), hin1.le hup.size⟩

set_option maxRecDepth 100000 in
set_option maxHeartbeats 400000 in
/-- binPutIPv6: the bytes as they are -/
theorem binPutIPv6 (g off n cp N C : Nat) (xs : List Value) (x : List Value) (w : World) (h : Row w 5 1 (some ⟨g, 0, none⟩) N C xs) (ho : off + 16 ≤ N) (hn : 16 ≤ n) (hx : x.length = 16) (hx1 : ∀ u ∈ x, u.oneCell' = true) :
    Calls Tryz.prog 406 #[.slice (some ⟨g, off, none⟩) n cp, .agg x.toArray] w fun e w' => e = .returned (.tuple #[]) ∧ Row w' 5 1 (some ⟨g, 0, none⟩) N C (putAt xs off x) ∧ Upd [g] w w' := by
  go_enter Tryz.func406, Tryz.ntmps406
  go_wp2_with ((with_reducible show wpList _ _ _ _ _ _); with_reducible refine wpList_copyRow rfl _ _ 26 26 rfl 5 Tryz.underlying26 (by kernel_rfl) rfl (Src.ofRange Tryz.underlying26 (by rw [hx]) (rangeAt_blk (heap_alloc_new w (.cells x.toArray 296))) hx1) rfl (h.alloc (.cells x.toArray 296)) hn ho ?_; intro w1 hr1 hu1)
  go_end0
  exact ⟨rfl, hr1, hu1.ofAlloc⟩

set_option maxRecDepth 100000 in
set_option maxHeartbeats 1000000 in
theorem ColIPv6_EncodeColumn (ac : Option Addr) (n cc : Nat) (vs : List (List Value)) (hvs : Arrs 16 vs) (bp : Nat) (ao : Option Addr) (m cp : Nat) (bs : List Value) (w : World) (hc : View w 16 ac n (vs.flatMap id)) (hb : Hold w bp 46 5 1 ao m cp bs)
    (hap : Apart ac bp ao) (hn : n ≤ 1000000) (hm : m ≤ 100000000) :
    Calls Tryz.prog 399 #[.slice ac n cc, .pointer (some ⟨bp, 0, none⟩)] w fun e w' => e = .returned (.tuple #[]) ∧ Grew w w' bp 46 5 1 ao (m + n * 16) (bs ++ vs.flatMap id) := by
  have hvl : vs.length = n := by have := hc.len; rw [flatMap_len' id 16 vs (fun a ha => (hvs a ha).1)] at this; omega
  have hbl := hb.own.len
  by_cases h0 : n = 0
  · subst h0
    have hv0 : vs = [] := List.eq_nil_of_length_eq_zero hvl
    subst hv0
    go_enter Tryz.func399, Tryz.ntmps399
    go_wp2
    refine bodyPost_ret (results_none rfl _ _ _) rfl ?_
    exact ⟨rfl, ao, cp, by simpa using hb, Upd.refl _ _, In.self (fun _ h => h)⟩
  · have h1 : ((n : Int) == 0) = false := beq_eq_false_iff_ne.2 (by omega)
    have hc0 := hb.cell
    go_enter Tryz.func399, Tryz.ntmps399
    go_wp2_with (at_builtin; refine wpList_zeros _ rfl _ _ 26 3 rfl 5 (.int .u8 0) 1 1 .i64 Tryz.underlying26 Tryz.underlying3 Tryz.info5 rfl (by decide) (by simp [Value.cells, Value.oneCell']) hb.own rfl (16 * n) (by omega) rfl (by omega) (by decide) (by omega) ?_; intro ao1 c1 w1 hown1 hupd1 hin1; have hc1 := hb.cell1 hupd1; have hf1 := hb.free1 hupd1)
    have hH1 := hb.after hown1 hupd1 hin1
    have hU1 := hb.upd hupd1 (.slice ao1 (m + 16 * n) c1)
    clear hown1 hupd1 hc1 hf1
    generalize w1.setCell ⟨bp, 0, none⟩ (.slice ao1 (m + 16 * n) c1) = w2 at *
    obtain ⟨g, rfl⟩ := hH1.own.head (by omega)
    go_loopw [5, 30] (fun off i wr => ∃ k : Nat, k ≤ n ∧ i = .int .i64 k ∧ off = .int .i64 (m + 16 * k : Nat) ∧ Hold wr bp 46 5 1 (some ⟨g, 0, none⟩) (m + 16 * n) c1 (bs ++ (vs.take k).flatMap id ++ List.replicate (16 * (n - k)) (.int .u8 0)) ∧ Upd (bp :: bk ao) w wr)
      (fun _ i _ => n - (intOf i).toNat)
    case atStart => exact ⟨0, Nat.zero_le _, rfl, rfl, by rw [show (Value.int .u8 0).cells = #[Value.int .u8 0] from rfl, zeroCells1] at hH1; simpa using hH1, hU1⟩
    case round =>
      obtain ⟨k, hk, rfl, rfl, hH, hU⟩ := hrel
      by_cases hlt : k < n
      · have hk0 : ((k : Int) < n) := by omega
        obtain ⟨b, o, rfl, hr, hbb⟩ := hc.at_ (by omega)
        have hbn : b ∉ bp :: bk ao := hap.not b (by simp)
        obtain ⟨x, hx⟩ : ∃ x, x = vs[k]'(by omega) := ⟨_, rfl⟩
        obtain ⟨hxl, hx1⟩ := hvs x (by rw [hx]; exact List.getElem_mem _)
        have hrx : wr.rangeAt b (o + k * 16) x := fun j v hv => by
          have hj : j < 16 := by rw [← hxl]; exact (List.getElem?_eq_some_iff.1 hv).1
          have h2 := flat_get id 16 vs (fun a ha => (hvs a ha).1) k (by omega) j hj
          rw [hU.cell hbb hbn, Nat.add_assoc]
          refine hr (k * 16 + j) v (h2.trans ?_)
          rw [← hx]; exact hv
        have hcb := hH.cell
        have hcap : m + 16 * k + 16 ≤ c1 := by have := hH.own.cap; omega
        have hs : (Tryz.prog.info? 296).map (·.size) = some x.length := by rw [hxl]; exact size_ColIPv6
        have hu := Tryz.underlying296
        have HX := Lib.hid hx
        clear hx
        go_wp2_with (first
          | ((with_reducible show wpList _ _ _ _ _ _); with_reducible refine wpList_load_mid rfl 296 _ rfl b (o + k * 16) rfl x _ hrx hu rfl hs ?_)
          | ((with_reducible show wpList _ _ _ _ _ _); with_reducible refine wpList_store_blk rfl 296 _ _ rfl (b := wr.heap.size) rfl (heap_alloc_new _ _) rfl hxl hs hx1 ?_; intro w3 hb3 hu3))
        have hu4 : Upd [] wr w3 := ((Upd.refl [] wr).alloc _).trans hu3 (fun y hy => by simp at hy; exact .inr (by omega))
        clear hu3
        have hH3 := hH.kept hu4 (by simp) (by simp)
        have hcb3 := hH3.cell
        have hb3l := lt_of_block hb3
        have hr3 : w3.rangeAt wr.heap.size 0 x := rangeAt_blk hb3
        simp only [Act.put]
        have hwr : IntKind.i64.wrap ((m : Int) + 16 * k + 16) = m + 16 * k + 16 := IntWalk.i64_in _ (by omega)
        refine wp_region_split (S := Upd [] w3) [(true, 0), (true, 1), (true, 2), (true, 3), (true, 4), (true, 5), (true, 6), (true, 7), (true, 8)] [] [9] (by kernel_rfl) (by kernel_rfl) (fun _ _ d _ _ h => by cases d <;> exact h) ((Upd.refl _ _).drew) ?_
        simp only [readsAt, opersAt, Option.map_some, List.filterMap_cons, List.filterMap_nil, List.getElem?_toArray, List.getElem?_cons_succ, List.getElem?_cons_zero]
        iterate 7 (refine ⟨_, Or.inl ⟨by rfl, fun w' hS => by first | (have q1 := Upd.cell1 hS hcb3 (by simp); first | (go_simp; done) | (go_simp; with_reducible rfl)) | (go_simp; done) | (go_simp; with_reducible rfl)⟩, ?_⟩; simp only [Act.put, List.setIfInBounds_toArray, List.set_cons_zero, List.set_cons_succ])
        refine ⟨_, yields_slice rfl 26 5 1 _ _ _ rfl Tryz.underlying26 (by kernel_rfl) g 0 _ _ rfl _ _ (m + 16 * k) (m + 16 * k + 16) rfl rfl (by omega) (by omega) (by omega) hcap (by omega) (m + 16 * k) 16 (c1 - (m + 16 * k)) (by omega) (by omega) rfl, ?_⟩
        simp only [Act.put, List.setIfInBounds_toArray, List.set_cons_zero, List.set_cons_succ]
        refine ⟨_, yieldsIf_load_mid (by rfl) _ _ rfl _ _ rfl x _ (fun w' hS => Upd.range hS hr3 hb3l (by simp)) hu rfl hs, ?_⟩
        simp only [Act.put, List.setIfInBounds_toArray, List.set_cons_zero, List.set_cons_succ]
        simp only [readsThen, preThen]
        change wpList _ _ _ [_] _ _
        clear hwr
        go_wp2_with (go_at_call 406; (with_reducible refine (binPutIPv6 g (m + 16 * k) 16 _ (m + 16 * n) c1 _ x _ (World.ownsRow.drew hH3.own) ?_ (by omega) hxl hx1).mono ?_); (· have := Nat.mul_le_mul_left 16 (show k + 1 ≤ n by omega); omega); rintro e wx ⟨rfl, hrow, hux⟩)
        have hstep : putAt (bs ++ (vs.take k).flatMap id ++ List.replicate (16 * (n - k)) (.int .u8 0)) (m + 16 * k) x = bs ++ (vs.take (k + 1)).flatMap id ++ List.replicate (16 * (n - (k + 1))) (.int .u8 0) := by
          rw [flatMap_take_succ _ _ _ (by omega), ← HX.out]
          refine enc_step (r := 16 * (n - (k + 1))) (m := 16) ?_ hxl ?_
          · congr 1; have : n - k = (n - (k + 1)) + 1 := by omega
            rw [this]; omega
          · rw [List.length_append, flatMap_len' id 16 _ (fun a ha => (hvs a (List.mem_of_mem_take ha)).1), List.length_take]; omega
        rw [hstep] at hrow
        have hux' : Upd [g] wr wx := (hu4.mono (by simp)).trans hux.ofDrew (fun _ h => .inl h)
        have hH' : Hold wx bp 46 5 1 (some ⟨g, 0, none⟩) (m + 16 * n) c1 (bs ++ (vs.take (k + 1)).flatMap id ++ List.replicate (16 * (n - (k + 1))) (.int .u8 0)) := ⟨hux'.at hH.blk (fun h => hH.ne (by simpa using h)), hrow, hH.ne⟩
        have hU' : Upd (bp :: bk ao) w wx := hU.trans hux' (fun y hy => by
          simp at hy; subst hy
          rcases hin1 y (by simp) with h | h
          · exact .inl (List.mem_cons_of_mem _ h)
          · exact .inr h)
        clear hstep hrow hux hux' hH hU hH3 hcb3 hr3 hb3 hu4
        go_roundw
        case rel => exact ⟨k + 1, by omega, by go_num, by simp; omega, hH', hU'⟩
        case measure => simp [intOf]; omega
      · have hk0 : n ≤ k := by omega
        obtain rfl : k = n := by omega
        go_wp2
        go_end0
        refine ⟨rfl, some ⟨g, 0, none⟩, c1, ?_, hU, hin1⟩
        rw [List.take_of_length_le (by omega), Nat.sub_self, Nat.mul_zero, List.replicate_zero, List.append_nil] at hH
        rw [Nat.mul_comm k 16]
        exact hH
set_option maxRecDepth 100000 in
set_option maxHeartbeats 1000000 in
/-- binIPv6: the 16 bytes as they are -/
theorem binIPv6 (g off c : Nat) (x : List Value) (hx : x.length = 16) (hx1 : ∀ u ∈ x, u.oneCell' = true) (w : World) (h : w.rangeAt g off x) (hlt : g < w.heap.size) :
    Calls Tryz.prog 405 #[.slice (some ⟨g, off, none⟩) 16 c] w fun e w' => e = .returned (.agg x.toArray) ∧ Upd [] w w' := by
  obtain ⟨k1, u1, s1⟩ := alloc_facts w (Obj.cells (Array.replicate 16 (.int .u8 0)) 296)
  have r1 := u1.range h hlt (by simp)
  have hs : (Tryz.prog.info? 295).map (·.size) = some x.length := by rw [hx]; kernel_rfl
  have hs9 : (Tryz.prog.info? 296).map (·.size) = some x.length := by rw [hx]; kernel_rfl
  have harr : ∀ W : World, (Instr.arrayAt 295 (.slice (some ⟨g, off, none⟩) 16 c)).run Tryz.prog W = .ok (.pointer (some ⟨g, off, none⟩)) W := fun W => by
    simp [Instr.arrayAt, run_underlying Tryz.underlying295]
  go_enter Tryz.func405, Tryz.ntmps405
  go_wp2_with (first
    | ((with_reducible show wpList _ _ _ _ _ _); refine wpList_load_mid rfl 295 (.tmp 5) rfl g off rfl x _ r1 Tryz.underlying295 rfl hs ?_)
    | ((with_reducible show wpList _ _ _ _ _ _); refine wpList_store_blk rfl 296 (.tmp 2) (.tmp 6) rfl (b := w.heap.size) rfl k1 (cs := x) rfl hx hs9 hx1 ?_; intro w4 hb4 hu4; simp only [Act.put]))
  refine bodyPost_ret (v := .agg x.toArray) (results_cell1 Tryz.results405 (b := w.heap.size) rfl (run_loadVar_mid w4 w.heap.size 0 296 x _ (rangeAt_blk hb4) Tryz.underlying296 rfl hs9)) rfl ⟨rfl, ?_⟩
  exact u1.trans hu4 (fun y hy => by simp at hy; exact .inr (by omega))
set_option maxRecDepth 100000 in
set_option maxHeartbeats 1000000 in
theorem ColIPv6_DecodeColumn (p rd bf d : Nat) (ao : Option Addr) (n : Nat) (xs : List (List Value)) (hx : Arrs 16 xs) (hby : ∀ x ∈ xs, AllBytes x) (rest : List Value) (w : World) (h : Rdr w rd bf d ao (xs.flatMap id ++ rest)) (hn : xs.length = n) (h0 : 0 < n) (h30 : n ≤ 30)
    (hH : Hold w p 294 296 16 none 0 0 []) (ho : Off p rd bf d ao) :
    Calls Tryz.prog 398 #[.pointer (some ⟨p, 0, none⟩), .pointer (some ⟨rd, 0, none⟩), .int .i64 n] w fun e w' => e = .returned .nilIface ∧ Got w w' p 294 296 16 rd bf d ao n (xs.flatMap id) rest := by
  have hfl : (xs.flatMap id).length = n * 16 := by rw [flatMap_len' id 16 xs (fun a ha => (hx a ha).1), hn]
  obtain ⟨N, hN⟩ : ∃ N, N = n * 16 := ⟨_, rfl⟩
  rw [← hN] at hfl
  have ht : (xs.flatMap id ++ rest).take N = xs.flatMap id := by rw [List.take_append_of_le_length (by omega), List.take_of_length_le (by omega)]
  have hd : (xs.flatMap id ++ rest).drop N = rest := by rw [List.drop_append_of_le_length (by omega), List.drop_of_length_le (by omega), List.nil_append]
  have hLN : N ≤ (xs.flatMap id ++ rest).length := by rw [List.length_append]; omega
  have h1 : ((n : Int) == 0) = false := beq_eq_false_iff_ne.2 (by omega)
  have hmul : IntKind.i64.wrap ((n : Int) * 16) = N := by rw [IntWalk.i64_in _ (by omega)]; omega
  have hsub : IntKind.i64.wrap ((N : Int) - 16) = N - 16 := IntWalk.i64_in _ (by omega)
  have hb1 : ((N : Int) - 16) < N := by omega
  have hb0 : 0 ≤ ((N : Int) - 16) := by omega
  have hpl := hH.lt
  have HN := Lib.hid hN
  clear hN
  go_enter Tryz.func398, Tryz.ntmps398
  go_wp2_with (go_at_call 205; apply stopHere)
  show Calls _ _ _ _ _
  refine (ReadRawB rd bf d N _ (by first | rfl | exact hmul | (have := HN.out; omega)) ao _ w h (by have := HN.out; omega) (by have := HN.out; omega) hLN).mono ?_
  rintro e w1 ⟨g, c1, rfl, hR1, hG1, hu1, hi1⟩
  dsimp only
  rw [ht] at hG1
  rw [hd] at hR1
  have hP1 := hH.kept hu1 ho.not (by simp)
  have q0 := hP1.cell
  have hr1 := hG1.own.view 0 (xs.flatMap id) (fun j v hj => by rw [Nat.zero_add]; exact hj)
  have hgl : g < w1.heap.size := hG1.own.lt g (by simp)
  obtain ⟨u, hu⟩ : ∃ u, w1.cell? ⟨g, N - 16, none⟩ = some u := by
    obtain ⟨u, hu⟩ : ∃ u, (xs.flatMap id)[N - 16]? = some u := ⟨(xs.flatMap id)[N - 16]'(by have := HN.out; omega), by simp⟩
    exact ⟨u, by have := hr1 _ u hu; rwa [Nat.zero_add] at this⟩
  have hcap := hG1.own.cap.1
  go_wp2
  go_loopw [9, 10] (fun v i wr => ∃ (k : Nat) (av : Option Addr) (c : Nat), k ≤ n ∧ i = .int .i64 (16 * k : Nat) ∧ v = .slice av k c ∧ Row wr 296 16 av k c ((xs.take k).flatMap id) ∧ Upd [] w1 wr ∧ In [] w1.heap.size av)
    (fun _ i _ => N - (intOf i).toNat)
  case atStart => exact ⟨0, none, 0, Nat.zero_le _, rfl, rfl, Row.nil, Upd.refl _ _, In.nil⟩
  case round =>
    obtain ⟨k, av, c', hk, rfl, rfl, hown, hU, hI⟩ := hrel
    by_cases hlt : k < n
    · have hk0 : (16 : Int) * k ≤ N - 16 := by have := HN.out; omega
      have hwr : IntKind.i64.wrap ((16 : Int) * k + 16) = 16 * k + 16 := IntWalk.i64_in _ (by omega)
      have hpc := hU.range (flat_pieceA hr1 (fun a ha => (hx a ha).1) k (by omega)) hgl (by simp)
      have hgl' := Nat.lt_of_lt_of_le hgl hU.size
      obtain ⟨x, hxx⟩ : ∃ x, x = xs[k]'(by omega) := ⟨_, rfl⟩
      rw [← hxx] at hpc
      obtain ⟨hxl, hx1⟩ := hx x (by rw [hxx]; exact List.getElem_mem _)
      have HX := Lib.hid hxx
      clear hxx hx
      go_wp2_with (first
        | ((with_reducible show wpList _ _ _ _ _ _); refine wpList_slice rfl 26 5 1 _ _ _ rfl Tryz.underlying26 (by kernel_rfl) g 0 _ _ rfl _ _ (16 * k) (16 * k + 16) rfl rfl (by omega) (by omega) (by omega) (by have := HN.out; omega) (by have := HN.out; omega) (16 * k) 16 (c1 - 16 * k) (by omega) (by omega) rfl ?_; simp only [Act.put])
        | (go_at_call 405; (refine (binIPv6 g (16 * k) _ x hxl hx1 _ hpc hgl').mono ?_); rintro e w2 ⟨rfl, hu2⟩; have hown2 := hown.upd hu2 (by simp))
        | (at_builtin; refine wpList_app1 _ rfl _ _ 294 rfl 296 _ 16 16 Tryz.underlying294 Tryz.info296 rfl (by decide) hown2 rfl x (foldl_set _ _ hxl) hxl rfl hx1 (by decide) (by omega) ?_; intro av3 c3 w3 hown3 hupd3 hin3))
      have hU2 : Upd [] w1 w2 := hU.trans hu2 (fun _ h => .inl h)
      have hU3 : Upd [] w1 w3 := hU2.own hupd3 hI
      have hI3 : In [] w1.heap.size av3 := hI.step hin3 hU2.size
      have hR3 : Row w3 296 16 av3 (k + 1) c3 ((xs.take (k + 1)).flatMap id) := by
        rw [flatMap_take_succ _ _ _ (by omega), ← HX.out]
        exact hown3
      clear hown hown2 hown3 hpc hupd3 hin3
      go_roundw
      case rel => exact ⟨k + 1, av3, c3, by omega, by simp; omega, rfl, hR3, hU3, hI3⟩
      case measure => have := HN.out; simp [intOf]; omega
    · have hk0 : ¬ ((16 : Int) * k ≤ N - 16) := by have := HN.out; omega
      obtain rfl : k = n := by omega
      rw [List.take_of_length_le (by omega)] at hown
      have hP2 := hP1.kept hU (by simp) (by simp)
      have p0 := hP2.cell
      have pf := hP2.free
      go_wp2
      go_ret
      have hpo : Off p rd bf d (some ⟨g, 0, none⟩) := ho.step hi1 hpl
      have hs1 : w.heap.size ≤ w1.heap.size := hu1.size
      have hne : p ∉ bk av := fun hp => by
        rcases hI p hp with h | h
        · simp at h
        · omega
      have hsc := (Upd.refl [p] wr).setCell (p := ⟨p, 0, none⟩) (Value.slice av k c') (by simp)
      refine ⟨rfl, av, c', some ⟨g, 0, none⟩, Hold.stored hP2.blk (by simpa using hown) hne, (hR1.kept hU (by simp)).keptK hsc hpo, ?_, hI.le hs1, hi1, fun y hy hy' => ?_⟩
      · exact ((hu1.mono (fun y hy => .inl (List.mem_cons_of_mem _ hy))).trans hU (fun _ h => by simp at h)).setCell _ (by simp)
      · have hyl : w1.heap.size ≤ y := by
          rcases hI y hy with h | h
          · simp at h
          · exact h
        have hl1 := hR1.ltr
        have hl2 := hR1.ltb
        simp [rdF] at hy'
        rcases hy' with h | h | h <;> omega
end Go.Proofs.YtfbohkbpgfnceaaGreatDoor
