/-
  No cell of these rows narrows 'for every input' (looked for: loops, veiled, ifaces, maps, wideKeys, modest, calm, conditions, laid).
  DERIVED. THE GIVEN ROWS OF THIS SEAT. 5 by the template 'for every input the law returns true; each argument reads behind the call as it read before'; 0 by the template 'total and deterministic' (their statements: YtpehfhdacgjmpaaGreatTotals.lean).
  GIVEN WITH THE SEED: the statements are not yours to turn. If you find one false, say at which input.
  Laid BY PROGRAM, IN A SANDBOX (cutbox-rows.mjs): the forced cells as the released guide's own fill.sh prints them over the translation 7af4793168ce0904… (all of the seat's roots in one cut). By AI agents, Wed Nov 11 2026. No macro, syntax, notation, axiom, sorry.
-/
import Derived.Test.YtpehfhdacgjmpaaGreatChecked
import GoSem.Claim
import GoSem.ClaimJoined
import GoSem.ClaimMapViews
import Derived.JoinedTies
import Derived.KernelRfl
namespace Go.Proofs.YtpehfhdacgjmpaaGreat
/- THE CELL 'sum', in the pinned program and in every row, IS THE sha256 OF THE DUMP (.gsa) THAT YtpehfhdacgjmpaaGreatProg.lean LOADS. Nothing in Lean hashes anything: it is a label: what it is worth is what the hold of that sum in a sandbox is worth. -/
noncomputable def Tryz.pinned : Pinned := { name := "ytpehfhdacgjmpaagreat", sum := "7af4793168ce0904551a306716ff3ea4b2a7cd44fef86f0820a2d094a4cc21c5", checked := Tryz.checked }
namespace Rows
def none {H : Type} : Left H := { results := [], args := [] }

/-- 'laws.FnXFixed': WHATEVER THE INPUT: true; the input reads as it did. -/
def fnXFixedSpec : ChangeSpec := { name := "fnXFixed", fn := fun _ => fun
  | [d1, d2] => { results := [.lit (.bool true)], args := [d1, d2] }
  | _ => none }
def fnXFixedRow : OpenClaim := { program := "ytpehfhdacgjmpaagreat", sum := "7af4793168ce0904551a306716ff3ea4b2a7cd44fef86f0820a2d094a4cc21c5", func := "given.example/pub-clapboard/laws.FnXFixed", spec := "fnXFixed", inPlace := ["math.Float32frombits", "math.Float32bits", "math.Float64frombits", "math.Float64bits"], unfollowed := true, recurses := true, apart := false }
def FnXFixedSaid : Prop := fnXFixedRow.holds Tryz.pinned (OpenSpec.ofChange fnXFixedSpec)

/-- ITS FALSE NEIGHBOUR: 'it returns false'. Refute it at one input. -/
def fnXFixedWrong : ChangeSpec := { name := "fnXFixed", fn := fun _ => fun
  | [d1, d2] => { results := [.lit (.bool false)], args := [d1, d2] }
  | _ => none }
def FnXFixedWrongFalsely : Prop := fnXFixedRow.holds Tryz.pinned (OpenSpec.ofChange fnXFixedWrong)

/-- 'laws.FnXArrays': WHATEVER THE INPUT: true; the input reads as it did. -/
def fnXArraysSpec : ChangeSpec := { name := "fnXArrays", fn := fun _ => fun
  | [d] => { results := [.lit (.bool true)], args := [d] }
  | _ => none }
def fnXArraysRow : OpenClaim := { program := "ytpehfhdacgjmpaagreat", sum := "7af4793168ce0904551a306716ff3ea4b2a7cd44fef86f0820a2d094a4cc21c5", func := "given.example/pub-clapboard/laws.FnXArrays", spec := "fnXArrays", inPlace := ["math.Float32frombits", "math.Float32bits", "math.Float64frombits", "math.Float64bits"], unfollowed := true, recurses := true, apart := false }
def FnXArraysSaid : Prop := fnXArraysRow.holds Tryz.pinned (OpenSpec.ofChange fnXArraysSpec)

/-- ITS FALSE NEIGHBOUR: 'it returns false'. Refute it at one input. -/
def fnXArraysWrong : ChangeSpec := { name := "fnXArrays", fn := fun _ => fun
  | [d] => { results := [.lit (.bool false)], args := [d] }
  | _ => none }
def FnXArraysWrongFalsely : Prop := fnXArraysRow.holds Tryz.pinned (OpenSpec.ofChange fnXArraysWrong)

/-- 'laws.FnXNulls': WHATEVER THE INPUT: true; the input reads as it did. -/
def fnXNullsSpec : ChangeSpec := { name := "fnXNulls", fn := fun _ => fun
  | [d] => { results := [.lit (.bool true)], args := [d] }
  | _ => none }
def fnXNullsRow : OpenClaim := { program := "ytpehfhdacgjmpaagreat", sum := "7af4793168ce0904551a306716ff3ea4b2a7cd44fef86f0820a2d094a4cc21c5", func := "given.example/pub-clapboard/laws.FnXNulls", spec := "fnXNulls", inPlace := ["math.Float32frombits", "math.Float32bits", "math.Float64frombits", "math.Float64bits"], unfollowed := true, recurses := true, apart := false }
def FnXNullsSaid : Prop := fnXNullsRow.holds Tryz.pinned (OpenSpec.ofChange fnXNullsSpec)

/-- ITS FALSE NEIGHBOUR: 'it returns false'. Refute it at one input. -/
def fnXNullsWrong : ChangeSpec := { name := "fnXNulls", fn := fun _ => fun
  | [d] => { results := [.lit (.bool false)], args := [d] }
  | _ => none }
def FnXNullsWrongFalsely : Prop := fnXNullsRow.holds Tryz.pinned (OpenSpec.ofChange fnXNullsWrong)

/-- 'laws.FnXTuples': WHATEVER THE INPUT: true; the input reads as it did. -/
def fnXTuplesSpec : ChangeSpec := { name := "fnXTuples", fn := fun _ => fun
  | [d] => { results := [.lit (.bool true)], args := [d] }
  | _ => none }
def fnXTuplesRow : OpenClaim := { program := "ytpehfhdacgjmpaagreat", sum := "7af4793168ce0904551a306716ff3ea4b2a7cd44fef86f0820a2d094a4cc21c5", func := "given.example/pub-clapboard/laws.FnXTuples", spec := "fnXTuples", inPlace := ["math.Float32frombits", "math.Float32bits", "math.Float64frombits", "math.Float64bits"], unfollowed := true, recurses := true, apart := false }
def FnXTuplesSaid : Prop := fnXTuplesRow.holds Tryz.pinned (OpenSpec.ofChange fnXTuplesSpec)

/-- ITS FALSE NEIGHBOUR: 'it returns false'. Refute it at one input. -/
def fnXTuplesWrong : ChangeSpec := { name := "fnXTuples", fn := fun _ => fun
  | [d] => { results := [.lit (.bool false)], args := [d] }
  | _ => none }
def FnXTuplesWrongFalsely : Prop := fnXTuplesRow.holds Tryz.pinned (OpenSpec.ofChange fnXTuplesWrong)

/-- 'laws.FnXMaps': WHATEVER THE INPUT: true; the input reads as it did. -/
def fnXMapsSpec : ChangeSpec := { name := "fnXMaps", fn := fun _ => fun
  | [d] => { results := [.lit (.bool true)], args := [d] }
  | _ => none }
def fnXMapsRow : OpenClaim := { program := "ytpehfhdacgjmpaagreat", sum := "7af4793168ce0904551a306716ff3ea4b2a7cd44fef86f0820a2d094a4cc21c5", func := "given.example/pub-clapboard/laws.FnXMaps", spec := "fnXMaps", inPlace := ["math.Float32frombits", "math.Float32bits", "math.Float64frombits", "math.Float64bits"], unfollowed := true, recurses := true, apart := false }
def FnXMapsSaid : Prop := fnXMapsRow.holds Tryz.pinned (OpenSpec.ofChange fnXMapsSpec)

/-- ITS FALSE NEIGHBOUR: 'it returns false'. Refute it at one input. -/
def fnXMapsWrong : ChangeSpec := { name := "fnXMaps", fn := fun _ => fun
  | [d] => { results := [.lit (.bool false)], args := [d] }
  | _ => none }
def FnXMapsWrongFalsely : Prop := fnXMapsRow.holds Tryz.pinned (OpenSpec.ofChange fnXMapsWrong)

/- THE SECOND FORM. 'bulk': how many values and letters a reading holds, each counted each time it is reached (what is shared counts as often as it is met; a slice's spare places count too). A statement '..UptoSaid' is the law's where the arguments, and the package variables that the reading takes, are together of bulk at most 1048576: NARROWER than '..Said'. Prove '..Said' where nothing that the law and all that it calls make is longer than what came in: it says more and counts as full. Else prove '..UptoSaid'. A law counts once. -/
mutual
def uptoBulk {H : Type} : DataW H → Nat
  | .lit (.string bytes) => bytes.length + 1
  | .lit _ => 1
  | .nil => 1
  | .ptr d => uptoBulk d + 1
  | .slice elems spare => uptoBulkAll elems + uptoBulkAll spare + 1
  | .agg parts => uptoBulkAll parts + 1
  | .iface _ d => uptoBulk d + 1
  | .map entries => uptoBulkEntries entries + 1
  | .held _ => 1
def uptoBulkAll {H : Type} : List (DataW H) → Nat
  | [] => 0
  | d :: r => uptoBulk d + uptoBulkAll r
def uptoBulkEntries {H : Type} : List (Lit × DataW H) → Nat
  | [] => 0
  | x :: r => uptoBulkEntry x + uptoBulkEntries r
def uptoBulkEntry {H : Type} : Lit × DataW H → Nat
  | (.string bytes, d) => bytes.length + uptoBulk d + 1
  | (_, d) => uptoBulk d + 1
 end
def uptoSmall : (H : Type) → List (DataW H) → Bool := fun _ ds => decide (uptoBulkAll ds ≤ 1048576)
def OpenSpec.upto (s : _root_.Go.ChangeSpec) : _root_.Go.OpenSpec := { _root_.Go.OpenSpec.ofChange s with cond := some uptoSmall }

/-- 'laws.FnXFixed', WHERE WHAT IT READS IS OF BULK AT MOST 1048576: true; the input reads as it did. -/
def fnXFixedUptoRow : OpenClaim := { program := "ytpehfhdacgjmpaagreat", sum := "7af4793168ce0904551a306716ff3ea4b2a7cd44fef86f0820a2d094a4cc21c5", func := "given.example/pub-clapboard/laws.FnXFixed", spec := "fnXFixed", inPlace := ["math.Float32frombits", "math.Float32bits", "math.Float64frombits", "math.Float64bits"], unfollowed := true, recurses := true, apart := false, narrowed := true }
def FnXFixedUptoSaid : Prop := fnXFixedUptoRow.holds Tryz.pinned (OpenSpec.upto fnXFixedSpec)

/-- 'laws.FnXArrays', WHERE WHAT IT READS IS OF BULK AT MOST 1048576: true; the input reads as it did. -/
def fnXArraysUptoRow : OpenClaim := { program := "ytpehfhdacgjmpaagreat", sum := "7af4793168ce0904551a306716ff3ea4b2a7cd44fef86f0820a2d094a4cc21c5", func := "given.example/pub-clapboard/laws.FnXArrays", spec := "fnXArrays", inPlace := ["math.Float32frombits", "math.Float32bits", "math.Float64frombits", "math.Float64bits"], unfollowed := true, recurses := true, apart := false, narrowed := true }
def FnXArraysUptoSaid : Prop := fnXArraysUptoRow.holds Tryz.pinned (OpenSpec.upto fnXArraysSpec)

/-- 'laws.FnXNulls', WHERE WHAT IT READS IS OF BULK AT MOST 1048576: true; the input reads as it did. -/
def fnXNullsUptoRow : OpenClaim := { program := "ytpehfhdacgjmpaagreat", sum := "7af4793168ce0904551a306716ff3ea4b2a7cd44fef86f0820a2d094a4cc21c5", func := "given.example/pub-clapboard/laws.FnXNulls", spec := "fnXNulls", inPlace := ["math.Float32frombits", "math.Float32bits", "math.Float64frombits", "math.Float64bits"], unfollowed := true, recurses := true, apart := false, narrowed := true }
def FnXNullsUptoSaid : Prop := fnXNullsUptoRow.holds Tryz.pinned (OpenSpec.upto fnXNullsSpec)

/-- 'laws.FnXTuples', WHERE WHAT IT READS IS OF BULK AT MOST 1048576: true; the input reads as it did. -/
def fnXTuplesUptoRow : OpenClaim := { program := "ytpehfhdacgjmpaagreat", sum := "7af4793168ce0904551a306716ff3ea4b2a7cd44fef86f0820a2d094a4cc21c5", func := "given.example/pub-clapboard/laws.FnXTuples", spec := "fnXTuples", inPlace := ["math.Float32frombits", "math.Float32bits", "math.Float64frombits", "math.Float64bits"], unfollowed := true, recurses := true, apart := false, narrowed := true }
def FnXTuplesUptoSaid : Prop := fnXTuplesUptoRow.holds Tryz.pinned (OpenSpec.upto fnXTuplesSpec)

/-- 'laws.FnXMaps', WHERE WHAT IT READS IS OF BULK AT MOST 1048576: true; the input reads as it did. -/
def fnXMapsUptoRow : OpenClaim := { program := "ytpehfhdacgjmpaagreat", sum := "7af4793168ce0904551a306716ff3ea4b2a7cd44fef86f0820a2d094a4cc21c5", func := "given.example/pub-clapboard/laws.FnXMaps", spec := "fnXMaps", inPlace := ["math.Float32frombits", "math.Float32bits", "math.Float64frombits", "math.Float64bits"], unfollowed := true, recurses := true, apart := false, narrowed := true }
def FnXMapsUptoSaid : Prop := fnXMapsUptoRow.holds Tryz.pinned (OpenSpec.upto fnXMapsSpec)

end Rows
end Go.Proofs.YtpehfhdacgjmpaaGreat
