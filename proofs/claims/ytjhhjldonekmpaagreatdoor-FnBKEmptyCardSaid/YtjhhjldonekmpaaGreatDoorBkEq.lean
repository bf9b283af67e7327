/- Bytes that are compared: bytes.Equal, and rows by slices.Equal. -/
import Derived.Test.YtjhhjldonekmpaaGreatDoorArr
import Derived.Laws.BytesString
import Derived.Lib.BufferRead
namespace Go.Proofs.YtjhhjldonekmpaaGreatDoor
open Go Go.RowKit
/-- the letters of bytes -/
def strOf (bs : List Value) : ByteArray := (bs.map intOf).foldl (fun r n => r.push (UInt8.ofNat n.toNat)) ByteArray.empty
theorem AllBytes.ints {bs : List Value} (h : AllBytes bs) : (bs.map intOf).map (Value.int .u8) = bs := by
  rw [List.map_map]
  induction bs with
  | nil => rfl
  | cons b bs ih =>
    obtain ⟨x, rfl, _⟩ := h b (by simp)
    simp only [List.map_cons, Function.comp, intOf]
    rw [ih (fun u hu => h u (by simp [hu]))]
theorem run_text (ao : Option Addr) (n c : Nat) (bs : List Value) (w : World) (hv : View w 1 ao n bs) (hb : AllBytes bs) : (convert 27 9 (.slice ao n c)).run Tryz.prog w = .ok (.string (strOf bs)) w := by
  have hl := hv.len
  rw [run_convert_bytes_string w 27 9 5 ao n c Tryz.underlying27 Tryz.underlying5 Tryz.underlying9]
  cases ao with
  | none =>
    by_cases h0 : n = 0
    · subst h0
      obtain rfl : bs = [] := List.eq_nil_of_length_eq_zero (by simpa using hl)
      simp [Conv.bytesToString, strOf]
    · obtain ⟨b, o, h, _⟩ := hv.at_ (by omega)
      cases h
  | some a =>
    refine run_bytesToString w a n c (bs.map intOf) ?_
    rw [hb.ints]
    have := run_loadCells_list (P := Tryz.prog) w a bs (fun j v hj => by
      have hn : 0 < n := by
        have := (List.getElem?_eq_some_iff.1 hj).1
        omega
      obtain ⟨b, o, h, hr, _⟩ := hv.at_ hn
      cases h
      rw [Addr.add_mid]; exact hr j v hj)
    rw [show bs.length = n by omega] at this
    exact this

set_option maxRecDepth 100000 in
set_option maxHeartbeats 400000 in
theorem bytesEqual (a1 a2 : Option Addr) (n1 n2 c1 c2 : Nat) (bs : List Value) (w : World) (h1 : View w 1 a1 n1 bs) (h2 : View w 1 a2 n2 bs) (hb : AllBytes bs) :
    Calls Tryz.prog 8 #[.slice a1 n1 c1, .slice a2 n2 c2] w fun e w' => e = .returned (.bool true) ∧ w' = w := by
  have e1 := run_text a1 n1 c1 bs w h1 hb
  have e2 := run_text a2 n2 c2 bs w h2 hb
  go_enter Tryz.func8, Tryz.ntmps8
  go_wp2
  go_ret
  exact ⟨rfl, rfl⟩

end Go.Proofs.YtjhhjldonekmpaaGreatDoor
