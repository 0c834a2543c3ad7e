/-
  NARROWER THAN 'FOR EVERY INPUT', by the rows' own cells (each row's printed sentence says how): FnUint64Val: laid · FnSign: laid · FnBytes: laid.
  DERIVED. THE GIVEN ROWS OF THIS SEAT. 3 by the template 'for every input the law returns true; each argument reads behind the call as it read before'; 0 by the template 'total and deterministic' (their statements: YtdfedhmejilnhaaGreatDoorTotals.lean).
  GIVEN WITH THE SEED: the statements are not yours to turn. If you find one false, say at which input.
  Laid BY PROGRAM, IN A SANDBOX (cutbox-rows.mjs): the forced cells as the released guide's own fill.sh prints them over the translation 0bda7be13fd60f01… (all of the seat's roots in one cut). By AI agents, Wed Nov 11 2026. No macro, syntax, notation, axiom, sorry.
-/
import Derived.Test.YtdfedhmejilnhaaGreatDoorChecked
import GoSem.Claim
import GoSem.ClaimJoined
import GoSem.ClaimMapViews
import Derived.JoinedTies
import Derived.KernelRfl
namespace Go.Proofs.YtdfedhmejilnhaaGreatDoor
/- THE CELL 'sum', in the pinned program and in every row, IS THE sha256 OF THE DUMP (.gsa) THAT YtdfedhmejilnhaaGreatDoorProg.lean LOADS. Nothing in Lean hashes anything: it is a label: what it is worth is what the hold of that sum in a sandbox is worth. -/
noncomputable def Tryz.pinned : Pinned := { name := "ytdfedhmejilnhaagreatdoor", sum := "0bda7be13fd60f0141d37ca1d474c5bf6c6a41b8033b6912dd422dd931d1280f", checked := Tryz.checked }
namespace Rows
def none {H : Type} : Left H := { results := [], args := [] }

/- WHAT THE LISTED PACKAGE-LEVEL VARIABLES READ AS WHEN THE CALL BEGINS. Each datum BY PROGRAM (the guide's laid-datum.mjs) off the statement by which the dump's own 'gosem.cut.vars' lays the variable. In a bare row this is a premise. The card (YtdfedhmejilnhaaGreatDoorCards.lean) ties it to the program's text. -/
def laid_loop_example_pub_g03237_pub_bigall_divRecursiveThreshold {H : Type} : DataW H := .lit (.int .i64 40)
def laid_loop_example_pub_g03237_pub_bigall_karatsubaThreshold {H : Type} : DataW H := .lit (.int .i64 40)
def laid_loop_example_pub_g03237_pub_bigall_basicSqrThreshold {H : Type} : DataW H := .lit (.int .i64 12)
def laid_loop_example_pub_g03237_pub_bigall_karatsubaSqrThreshold {H : Type} : DataW H := .lit (.int .i64 80)

/-- 'laws.FnUint64Val': WHATEVER THE INPUT: true; the input reads as it did. -/
def fnUint64ValSpec : ChangeSpec := { name := "fnUint64Val", vars := ["loop.example/pub-g03237/pub/bigall.divRecursiveThreshold", "loop.example/pub-g03237/pub/bigall.karatsubaThreshold", "loop.example/pub-g03237/pub/bigall.basicSqrThreshold", "loop.example/pub-g03237/pub/bigall.karatsubaSqrThreshold"], fn := fun _ => fun
  | [d, g1, g2, g3, g4] => { results := [.lit (.bool true)], args := [d], vars := [g1, g2, g3, g4] }
  | _ => none }
def fnUint64ValRow : OpenClaim := { program := "ytdfedhmejilnhaagreatdoor", sum := "0bda7be13fd60f0141d37ca1d474c5bf6c6a41b8033b6912dd422dd931d1280f", func := "loop.example/pub-g03237/laws.FnUint64Val", spec := "fnUint64Val", inPlace := ["math/bits.Add64", "math/bits.Sub64"], recurses := true, named := ["loop.example/pub-g03237/pub/bigall.divRecursiveThreshold", "loop.example/pub-g03237/pub/bigall.karatsubaThreshold", "loop.example/pub-g03237/pub/bigall.basicSqrThreshold", "loop.example/pub-g03237/pub/bigall.karatsubaSqrThreshold"], apart := false, laid := [("loop.example/pub-g03237/pub/bigall.divRecursiveThreshold", laid_loop_example_pub_g03237_pub_bigall_divRecursiveThreshold), ("loop.example/pub-g03237/pub/bigall.karatsubaThreshold", laid_loop_example_pub_g03237_pub_bigall_karatsubaThreshold), ("loop.example/pub-g03237/pub/bigall.basicSqrThreshold", laid_loop_example_pub_g03237_pub_bigall_basicSqrThreshold), ("loop.example/pub-g03237/pub/bigall.karatsubaSqrThreshold", laid_loop_example_pub_g03237_pub_bigall_karatsubaSqrThreshold)] }
def FnUint64ValSaid : Prop := fnUint64ValRow.holds Tryz.pinned (OpenSpec.ofChange fnUint64ValSpec)

/-- ITS FALSE NEIGHBOUR: 'it returns false'. Refute it at one input. -/
def fnUint64ValWrong : ChangeSpec := { name := "fnUint64Val", vars := ["loop.example/pub-g03237/pub/bigall.divRecursiveThreshold", "loop.example/pub-g03237/pub/bigall.karatsubaThreshold", "loop.example/pub-g03237/pub/bigall.basicSqrThreshold", "loop.example/pub-g03237/pub/bigall.karatsubaSqrThreshold"], fn := fun _ => fun
  | [d, g1, g2, g3, g4] => { results := [.lit (.bool false)], args := [d], vars := [g1, g2, g3, g4] }
  | _ => none }
def FnUint64ValWrongFalsely : Prop := fnUint64ValRow.holds Tryz.pinned (OpenSpec.ofChange fnUint64ValWrong)

/-- 'laws.FnSign': WHATEVER THE INPUT: true; the input reads as it did. -/
def fnSignSpec : ChangeSpec := { name := "fnSign", vars := ["loop.example/pub-g03237/pub/bigall.divRecursiveThreshold", "loop.example/pub-g03237/pub/bigall.karatsubaThreshold", "loop.example/pub-g03237/pub/bigall.basicSqrThreshold", "loop.example/pub-g03237/pub/bigall.karatsubaSqrThreshold"], fn := fun _ => fun
  | [d, g1, g2, g3, g4] => { results := [.lit (.bool true)], args := [d], vars := [g1, g2, g3, g4] }
  | _ => none }
def fnSignRow : OpenClaim := { program := "ytdfedhmejilnhaagreatdoor", sum := "0bda7be13fd60f0141d37ca1d474c5bf6c6a41b8033b6912dd422dd931d1280f", func := "loop.example/pub-g03237/laws.FnSign", spec := "fnSign", inPlace := ["math/bits.Add64", "math/bits.Sub64"], recurses := true, named := ["loop.example/pub-g03237/pub/bigall.divRecursiveThreshold", "loop.example/pub-g03237/pub/bigall.karatsubaThreshold", "loop.example/pub-g03237/pub/bigall.basicSqrThreshold", "loop.example/pub-g03237/pub/bigall.karatsubaSqrThreshold"], apart := false, laid := [("loop.example/pub-g03237/pub/bigall.divRecursiveThreshold", laid_loop_example_pub_g03237_pub_bigall_divRecursiveThreshold), ("loop.example/pub-g03237/pub/bigall.karatsubaThreshold", laid_loop_example_pub_g03237_pub_bigall_karatsubaThreshold), ("loop.example/pub-g03237/pub/bigall.basicSqrThreshold", laid_loop_example_pub_g03237_pub_bigall_basicSqrThreshold), ("loop.example/pub-g03237/pub/bigall.karatsubaSqrThreshold", laid_loop_example_pub_g03237_pub_bigall_karatsubaSqrThreshold)] }
def FnSignSaid : Prop := fnSignRow.holds Tryz.pinned (OpenSpec.ofChange fnSignSpec)

/-- ITS FALSE NEIGHBOUR: 'it returns false'. Refute it at one input. -/
def fnSignWrong : ChangeSpec := { name := "fnSign", vars := ["loop.example/pub-g03237/pub/bigall.divRecursiveThreshold", "loop.example/pub-g03237/pub/bigall.karatsubaThreshold", "loop.example/pub-g03237/pub/bigall.basicSqrThreshold", "loop.example/pub-g03237/pub/bigall.karatsubaSqrThreshold"], fn := fun _ => fun
  | [d, g1, g2, g3, g4] => { results := [.lit (.bool false)], args := [d], vars := [g1, g2, g3, g4] }
  | _ => none }
def FnSignWrongFalsely : Prop := fnSignRow.holds Tryz.pinned (OpenSpec.ofChange fnSignWrong)

/-- 'laws.FnBytes': WHATEVER THE INPUT: true; the input reads as it did. -/
def fnBytesSpec : ChangeSpec := { name := "fnBytes", vars := ["loop.example/pub-g03237/pub/bigall.divRecursiveThreshold", "loop.example/pub-g03237/pub/bigall.karatsubaThreshold", "loop.example/pub-g03237/pub/bigall.basicSqrThreshold", "loop.example/pub-g03237/pub/bigall.karatsubaSqrThreshold"], fn := fun _ => fun
  | [d, g1, g2, g3, g4] => { results := [.lit (.bool true)], args := [d], vars := [g1, g2, g3, g4] }
  | _ => none }
def fnBytesRow : OpenClaim := { program := "ytdfedhmejilnhaagreatdoor", sum := "0bda7be13fd60f0141d37ca1d474c5bf6c6a41b8033b6912dd422dd931d1280f", func := "loop.example/pub-g03237/laws.FnBytes", spec := "fnBytes", inPlace := ["math/bits.Add64", "math/bits.Sub64"], recurses := true, named := ["loop.example/pub-g03237/pub/bigall.divRecursiveThreshold", "loop.example/pub-g03237/pub/bigall.karatsubaThreshold", "loop.example/pub-g03237/pub/bigall.basicSqrThreshold", "loop.example/pub-g03237/pub/bigall.karatsubaSqrThreshold"], apart := false, laid := [("loop.example/pub-g03237/pub/bigall.divRecursiveThreshold", laid_loop_example_pub_g03237_pub_bigall_divRecursiveThreshold), ("loop.example/pub-g03237/pub/bigall.karatsubaThreshold", laid_loop_example_pub_g03237_pub_bigall_karatsubaThreshold), ("loop.example/pub-g03237/pub/bigall.basicSqrThreshold", laid_loop_example_pub_g03237_pub_bigall_basicSqrThreshold), ("loop.example/pub-g03237/pub/bigall.karatsubaSqrThreshold", laid_loop_example_pub_g03237_pub_bigall_karatsubaSqrThreshold)] }
def FnBytesSaid : Prop := fnBytesRow.holds Tryz.pinned (OpenSpec.ofChange fnBytesSpec)

/-- ITS FALSE NEIGHBOUR: 'it returns false'. Refute it at one input. -/
def fnBytesWrong : ChangeSpec := { name := "fnBytes", vars := ["loop.example/pub-g03237/pub/bigall.divRecursiveThreshold", "loop.example/pub-g03237/pub/bigall.karatsubaThreshold", "loop.example/pub-g03237/pub/bigall.basicSqrThreshold", "loop.example/pub-g03237/pub/bigall.karatsubaSqrThreshold"], fn := fun _ => fun
  | [d, g1, g2, g3, g4] => { results := [.lit (.bool false)], args := [d], vars := [g1, g2, g3, g4] }
  | _ => none }
def FnBytesWrongFalsely : Prop := fnBytesRow.holds Tryz.pinned (OpenSpec.ofChange fnBytesWrong)

/- THE SECOND FORM. 'bulk': how many values and letters a reading holds, each counted each time it is reached (what is shared counts as often as it is met; a slice's spare places count too). A statement '..UptoSaid' is the law's where the arguments, and the package variables that the reading takes, are together of bulk at most 1048576: NARROWER than '..Said'. Prove '..Said' where nothing that the law and all that it calls make is longer than what came in: it says more and counts as full. Else prove '..UptoSaid'. A law counts once. -/
mutual
def uptoBulk {H : Type} : DataW H → Nat
  | .lit (.string bytes) => bytes.length + 1
  | .lit _ => 1
  | .nil => 1
  | .ptr d => uptoBulk d + 1
  | .slice elems spare => uptoBulkAll elems + uptoBulkAll spare + 1
  | .agg parts => uptoBulkAll parts + 1
  | .iface _ d => uptoBulk d + 1
  | .map entries => uptoBulkEntries entries + 1
  | .held _ => 1
def uptoBulkAll {H : Type} : List (DataW H) → Nat
  | [] => 0
  | d :: r => uptoBulk d + uptoBulkAll r
def uptoBulkEntries {H : Type} : List (Lit × DataW H) → Nat
  | [] => 0
  | x :: r => uptoBulkEntry x + uptoBulkEntries r
def uptoBulkEntry {H : Type} : Lit × DataW H → Nat
  | (.string bytes, d) => bytes.length + uptoBulk d + 1
  | (_, d) => uptoBulk d + 1
 end
def uptoSmall : (H : Type) → List (DataW H) → Bool := fun _ ds => decide (uptoBulkAll ds ≤ 1048576)
def OpenSpec.upto (s : _root_.Go.ChangeSpec) : _root_.Go.OpenSpec := { _root_.Go.OpenSpec.ofChange s with cond := some uptoSmall }

/-- 'laws.FnUint64Val', WHERE WHAT IT READS IS OF BULK AT MOST 1048576: true; the input reads as it did. -/
def fnUint64ValUptoRow : OpenClaim := { program := "ytdfedhmejilnhaagreatdoor", sum := "0bda7be13fd60f0141d37ca1d474c5bf6c6a41b8033b6912dd422dd931d1280f", func := "loop.example/pub-g03237/laws.FnUint64Val", spec := "fnUint64Val", inPlace := ["math/bits.Add64", "math/bits.Sub64"], recurses := true, named := ["loop.example/pub-g03237/pub/bigall.divRecursiveThreshold", "loop.example/pub-g03237/pub/bigall.karatsubaThreshold", "loop.example/pub-g03237/pub/bigall.basicSqrThreshold", "loop.example/pub-g03237/pub/bigall.karatsubaSqrThreshold"], apart := false, laid := [("loop.example/pub-g03237/pub/bigall.divRecursiveThreshold", laid_loop_example_pub_g03237_pub_bigall_divRecursiveThreshold), ("loop.example/pub-g03237/pub/bigall.karatsubaThreshold", laid_loop_example_pub_g03237_pub_bigall_karatsubaThreshold), ("loop.example/pub-g03237/pub/bigall.basicSqrThreshold", laid_loop_example_pub_g03237_pub_bigall_basicSqrThreshold), ("loop.example/pub-g03237/pub/bigall.karatsubaSqrThreshold", laid_loop_example_pub_g03237_pub_bigall_karatsubaSqrThreshold)], narrowed := true }
def FnUint64ValUptoSaid : Prop := fnUint64ValUptoRow.holds Tryz.pinned (OpenSpec.upto fnUint64ValSpec)

/-- 'laws.FnSign', WHERE WHAT IT READS IS OF BULK AT MOST 1048576: true; the input reads as it did. -/
def fnSignUptoRow : OpenClaim := { program := "ytdfedhmejilnhaagreatdoor", sum := "0bda7be13fd60f0141d37ca1d474c5bf6c6a41b8033b6912dd422dd931d1280f", func := "loop.example/pub-g03237/laws.FnSign", spec := "fnSign", inPlace := ["math/bits.Add64", "math/bits.Sub64"], recurses := true, named := ["loop.example/pub-g03237/pub/bigall.divRecursiveThreshold", "loop.example/pub-g03237/pub/bigall.karatsubaThreshold", "loop.example/pub-g03237/pub/bigall.basicSqrThreshold", "loop.example/pub-g03237/pub/bigall.karatsubaSqrThreshold"], apart := false, laid := [("loop.example/pub-g03237/pub/bigall.divRecursiveThreshold", laid_loop_example_pub_g03237_pub_bigall_divRecursiveThreshold), ("loop.example/pub-g03237/pub/bigall.karatsubaThreshold", laid_loop_example_pub_g03237_pub_bigall_karatsubaThreshold), ("loop.example/pub-g03237/pub/bigall.basicSqrThreshold", laid_loop_example_pub_g03237_pub_bigall_basicSqrThreshold), ("loop.example/pub-g03237/pub/bigall.karatsubaSqrThreshold", laid_loop_example_pub_g03237_pub_bigall_karatsubaSqrThreshold)], narrowed := true }
def FnSignUptoSaid : Prop := fnSignUptoRow.holds Tryz.pinned (OpenSpec.upto fnSignSpec)

/-- 'laws.FnBytes', WHERE WHAT IT READS IS OF BULK AT MOST 1048576: true; the input reads as it did. -/
def fnBytesUptoRow : OpenClaim := { program := "ytdfedhmejilnhaagreatdoor", sum := "0bda7be13fd60f0141d37ca1d474c5bf6c6a41b8033b6912dd422dd931d1280f", func := "loop.example/pub-g03237/laws.FnBytes", spec := "fnBytes", inPlace := ["math/bits.Add64", "math/bits.Sub64"], recurses := true, named := ["loop.example/pub-g03237/pub/bigall.divRecursiveThreshold", "loop.example/pub-g03237/pub/bigall.karatsubaThreshold", "loop.example/pub-g03237/pub/bigall.basicSqrThreshold", "loop.example/pub-g03237/pub/bigall.karatsubaSqrThreshold"], apart := false, laid := [("loop.example/pub-g03237/pub/bigall.divRecursiveThreshold", laid_loop_example_pub_g03237_pub_bigall_divRecursiveThreshold), ("loop.example/pub-g03237/pub/bigall.karatsubaThreshold", laid_loop_example_pub_g03237_pub_bigall_karatsubaThreshold), ("loop.example/pub-g03237/pub/bigall.basicSqrThreshold", laid_loop_example_pub_g03237_pub_bigall_basicSqrThreshold), ("loop.example/pub-g03237/pub/bigall.karatsubaSqrThreshold", laid_loop_example_pub_g03237_pub_bigall_karatsubaSqrThreshold)], narrowed := true }
def FnBytesUptoSaid : Prop := fnBytesUptoRow.holds Tryz.pinned (OpenSpec.upto fnBytesSpec)

end Rows
end Go.Proofs.YtdfedhmejilnhaaGreatDoor
