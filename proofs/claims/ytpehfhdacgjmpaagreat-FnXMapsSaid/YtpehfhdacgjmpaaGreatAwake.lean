/- ncAwake answers true. -/
import Derived.Test.YtpehfhdacgjmpaaGreatAwAll
import Derived.Test.YtpehfhdacgjmpaaGreatEqs
namespace Go.Proofs.YtpehfhdacgjmpaaGreat
open Go Go.RowKit
theorem View.made (w : World) (cs : List Value) (T : TypeId) (size n : Nat) (hl : cs.length = n * size) : View (w.alloc (.cells cs.toArray T)) size (some ⟨w.heap.size, 0, none⟩) n cs :=
  ⟨hl, fun _ => ⟨w.heap.size, 0, rfl, rangeAt_blk (heap_alloc_new _ _), by simp⟩⟩
def aw4 : List Value := [.int .u8 1, .int .u8 2, .int .u8 7, .int .u8 0]
theorem aw4_bytes : AllBytes aw4 := by
  intro u hu
  simp only [aw4, List.mem_cons, List.not_mem_nil, or_false] at hu
  rcases hu with rfl | rfl | rfl | rfl
  · exact ⟨1, rfl, by omega, by omega⟩
  · exact ⟨2, rfl, by omega, by omega⟩
  · exact ⟨7, rfl, by omega, by omega⟩
  · exact ⟨0, rfl, by omega, by omega⟩
theorem aw4_eq : (([⟨513, 0, 0, 0⟩, ⟨7, 0, 0, 0⟩] : List R4).map (fun r => IntKind.u16.wrap r.a)).flatMap (leV 2) = aw4 := by kernel_rfl
set_option maxRecDepth 100000 in
set_option maxHeartbeats 1000000 in
theorem ncAwake (w : World) : Calls Tryz.prog 12 #[] w fun e w' => e = .returned (.bool true) ∧ Upd [] w w' := by
  have hd := heap_alloc_new w (Obj.cells #[.int .u8 1, .int .u8 2] 5)
  have u0 := (Upd.refl [] w).alloc (Obj.cells #[.int .u8 1, .int .u8 2] 5)
  go_enter Tryz.func12, Tryz.ntmps12
  go_wp2_with (first
    | (go_at_call 32; (refine (NCDecode_aw _ _ hd).mono ?_); rintro e w1 ⟨⟨ao1, c1, s1, rfl, hR1⟩, hu1⟩)
    | (go_at_call 9; (refine (NCEncode_8 _ 2 2 [⟨513, 0, 0, 0⟩, ⟨7, 0, 0, 0⟩] _ (View.made w1 [.int .u64 513, .int .u64 0, .int .u64 0, .int .u64 0, .int .u64 7, .int .u64 0, .int .u64 0, .int .u64 0] 28 4 2 rfl) (by decide)).mono ?_); rintro e w2 ⟨ao2, c2, rfl, hR2, hu2, hi2⟩; rw [aw4_eq] at hR2)
    | (go_at_call 10; (refine (bytesEqual _ _ _ _ _ _ aw4 _ (hR2.toView.upd ((Upd.refl [] w2).alloc _) (by simp)) (View.made w2 aw4 5 1 4 rfl) aw4_bytes).mono ?_); rintro e w3 ⟨rfl, rfl⟩)
    | (go_at_call 33; have ux := ((((Upd.refl [] w1).alloc _).trans hu2 (fun _ h => .inl h)).alloc (Obj.cells aw4.toArray 5)).alloc (Obj.cells row513.toArray 28); have hv := View.made (w2.alloc (Obj.cells aw4.toArray 5)) row513 28 4 1 rfl; rw [World.size_alloc] at hv; (refine (rowsEqual1 _ _ _ _ row513 _ (hR1.toView.upd ux (by simp)) hv rfl).mono ?_); rintro e w4 ⟨rfl, hu4⟩))
  go_ret
  exact ⟨rfl, ((u0.trans hu1 (fun _ h => .inl h)).trans ux (fun _ h => .inl h)).trans hu4 (fun _ h => .inl h)⟩
end Go.Proofs.YtpehfhdacgjmpaaGreat
