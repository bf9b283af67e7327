/-
  NARROWER THAN 'FOR EVERY INPUT', by the rows' own cells (each row's printed sentence says how): FnBKEmpty: laid.
  DERIVED. THE GIVEN ROWS OF THIS SEAT. 1 by the template 'for every input the law returns true; each argument reads behind the call as it read before'; 0 by the template 'total and deterministic' (their statements: YtjhhjldonekmpaaGreatDoorTotals.lean).
  GIVEN WITH THE SEED: the statements are not yours to turn. If you find one false, say at which input.
  Laid BY PROGRAM, IN A SANDBOX (cutbox-rows.mjs): the forced cells as the released guide's own fill.sh prints them over the translation b779f4157ee98282… (all of the seat's roots in one cut). By AI agents, Wed Nov 11 2026. No macro, syntax, notation, axiom, sorry.
-/
import Derived.Test.YtjhhjldonekmpaaGreatDoorChecked
import GoSem.Claim
import GoSem.ClaimJoined
import GoSem.ClaimMapViews
import Derived.JoinedTies
import Derived.KernelRfl
namespace Go.Proofs.YtjhhjldonekmpaaGreatDoor
/- THE CELL 'sum', in the pinned program and in every row, IS THE sha256 OF THE DUMP (.gsa) THAT YtjhhjldonekmpaaGreatDoorProg.lean LOADS. Nothing in Lean hashes anything: it is a label: what it is worth is what the hold of that sum in a sandbox is worth. -/
noncomputable def Tryz.pinned : Pinned := { name := "ytjhhjldonekmpaagreatdoor", sum := "b779f4157ee982829060286203676dedcbeaf9accf65d1c307d1e04ec87cf471", checked := Tryz.checked }
namespace Rows
def none {H : Type} : Left H := { results := [], args := [] }

/- WHAT THE LISTED PACKAGE-LEVEL VARIABLES READ AS WHEN THE CALL BEGINS. Each datum BY PROGRAM (the guide's laid-datum.mjs) off the statement by which the dump's own 'gosem.cut.vars' lays the variable. In a bare row this is a premise. The card (YtjhhjldonekmpaaGreatDoorCards.lean) ties it to the program's text. -/
def laid_given_example_pub_clapboard_spec_ncWidths {H : Type} : DataW H := .agg [.lit (.int .i64 0), .lit (.int .i64 1), .lit (.int .i64 2), .lit (.int .i64 4), .lit (.int .i64 8), .lit (.int .i64 16), .lit (.int .i64 32), .lit (.int .i64 1), .lit (.int .i64 2), .lit (.int .i64 4), .lit (.int .i64 8), .lit (.int .i64 16), .lit (.int .i64 32), .lit (.int .i64 4), .lit (.int .i64 8), .lit (.int .i64 2), .lit (.int .i64 1), .lit (.int .i64 4), .lit (.int .i64 16), .lit (.int .i64 16), .lit (.int .i64 1), .lit (.int .i64 2)]
def laid_given_example_pub_clapboard_spec_ncNames {H : Type} : DataW H := .agg [.lit (.string []), .lit (.string [73, 110, 116, 56]), .lit (.string [73, 110, 116, 49, 54]), .lit (.string [73, 110, 116, 51, 50]), .lit (.string [73, 110, 116, 54, 52]), .lit (.string [73, 110, 116, 49, 50, 56]), .lit (.string [73, 110, 116, 50, 53, 54]), .lit (.string [85, 73, 110, 116, 56]), .lit (.string [85, 73, 110, 116, 49, 54]), .lit (.string [85, 73, 110, 116, 51, 50]), .lit (.string [85, 73, 110, 116, 54, 52]), .lit (.string [85, 73, 110, 116, 49, 50, 56]), .lit (.string [85, 73, 110, 116, 50, 53, 54]), .lit (.string [70, 108, 111, 97, 116, 51, 50]), .lit (.string [70, 108, 111, 97, 116, 54, 52]), .lit (.string [66, 70, 108, 111, 97, 116, 49, 54]), .lit (.string [66, 111, 111, 108]), .lit (.string [73, 80, 118, 52]), .lit (.string [73, 80, 118, 54]), .lit (.string [85, 85, 73, 68]), .lit (.string [69, 110, 117, 109, 56]), .lit (.string [69, 110, 117, 109, 49, 54])]

/-- 'laws.FnBKEmpty': WHATEVER THE INPUT: true; the input reads as it did. -/
def fnBKEmptySpec : ChangeSpec := { name := "fnBKEmpty", vars := ["given.example/pub-clapboard/spec.ncNames", "given.example/pub-clapboard/spec.ncWidths"], fn := fun _ => fun
  | [d1, d2, d3, g1, g2] => { results := [.lit (.bool true)], args := [d1, d2, d3], vars := [g1, g2] }
  | _ => none }
def fnBKEmptyRow : OpenClaim := { program := "ytjhhjldonekmpaagreatdoor", sum := "b779f4157ee982829060286203676dedcbeaf9accf65d1c307d1e04ec87cf471", func := "given.example/pub-clapboard/laws.FnBKEmpty", spec := "fnBKEmpty", inPlace := ["math.Float32frombits", "math.Float32bits", "math.Float64frombits", "math.Float64bits"], unfollowed := true, recurses := true, named := ["encoding/binary.LittleEndian", "given.example/pub-clapboard/spec.ncNames", "given.example/pub-clapboard/spec.ncWidths"], apart := false, laid := [("given.example/pub-clapboard/spec.ncWidths", laid_given_example_pub_clapboard_spec_ncWidths), ("given.example/pub-clapboard/spec.ncNames", laid_given_example_pub_clapboard_spec_ncNames)] }
def FnBKEmptySaid : Prop := fnBKEmptyRow.holds Tryz.pinned (OpenSpec.ofChange fnBKEmptySpec)

/-- ITS FALSE NEIGHBOUR: 'it returns false'. Refute it at one input. -/
def fnBKEmptyWrong : ChangeSpec := { name := "fnBKEmpty", vars := ["given.example/pub-clapboard/spec.ncNames", "given.example/pub-clapboard/spec.ncWidths"], fn := fun _ => fun
  | [d1, d2, d3, g1, g2] => { results := [.lit (.bool false)], args := [d1, d2, d3], vars := [g1, g2] }
  | _ => none }
def FnBKEmptyWrongFalsely : Prop := fnBKEmptyRow.holds Tryz.pinned (OpenSpec.ofChange fnBKEmptyWrong)

/- THE SECOND FORM. 'bulk': how many values and letters a reading holds, each counted each time it is reached (what is shared counts as often as it is met; a slice's spare places count too). A statement '..UptoSaid' is the law's where the arguments, and the package variables that the reading takes, are together of bulk at most 1048576: NARROWER than '..Said'. Prove '..Said' where nothing that the law and all that it calls make is longer than what came in: it says more and counts as full. Else prove '..UptoSaid'. A law counts once. -/
mutual
def uptoBulk {H : Type} : DataW H → Nat
  | .lit (.string bytes) => bytes.length + 1
  | .lit _ => 1
  | .nil => 1
  | .ptr d => uptoBulk d + 1
  | .slice elems spare => uptoBulkAll elems + uptoBulkAll spare + 1
  | .agg parts => uptoBulkAll parts + 1
  | .iface _ d => uptoBulk d + 1
  | .map entries => uptoBulkEntries entries + 1
  | .held _ => 1
def uptoBulkAll {H : Type} : List (DataW H) → Nat
  | [] => 0
  | d :: r => uptoBulk d + uptoBulkAll r
def uptoBulkEntries {H : Type} : List (Lit × DataW H) → Nat
  | [] => 0
  | x :: r => uptoBulkEntry x + uptoBulkEntries r
def uptoBulkEntry {H : Type} : Lit × DataW H → Nat
  | (.string bytes, d) => bytes.length + uptoBulk d + 1
  | (_, d) => uptoBulk d + 1
 end
def uptoSmall : (H : Type) → List (DataW H) → Bool := fun _ ds => decide (uptoBulkAll ds ≤ 1048576)
def OpenSpec.upto (s : _root_.Go.ChangeSpec) : _root_.Go.OpenSpec := { _root_.Go.OpenSpec.ofChange s with cond := some uptoSmall }

/-- 'laws.FnBKEmpty', WHERE WHAT IT READS IS OF BULK AT MOST 1048576: true; the input reads as it did. -/
def fnBKEmptyUptoRow : OpenClaim := { program := "ytjhhjldonekmpaagreatdoor", sum := "b779f4157ee982829060286203676dedcbeaf9accf65d1c307d1e04ec87cf471", func := "given.example/pub-clapboard/laws.FnBKEmpty", spec := "fnBKEmpty", inPlace := ["math.Float32frombits", "math.Float32bits", "math.Float64frombits", "math.Float64bits"], unfollowed := true, recurses := true, named := ["encoding/binary.LittleEndian", "given.example/pub-clapboard/spec.ncNames", "given.example/pub-clapboard/spec.ncWidths"], apart := false, laid := [("given.example/pub-clapboard/spec.ncWidths", laid_given_example_pub_clapboard_spec_ncWidths), ("given.example/pub-clapboard/spec.ncNames", laid_given_example_pub_clapboard_spec_ncNames)], narrowed := true }
def FnBKEmptyUptoSaid : Prop := fnBKEmptyUptoRow.holds Tryz.pinned (OpenSpec.upto fnBKEmptySpec)

end Rows
end Go.Proofs.YtjhhjldonekmpaaGreatDoor
