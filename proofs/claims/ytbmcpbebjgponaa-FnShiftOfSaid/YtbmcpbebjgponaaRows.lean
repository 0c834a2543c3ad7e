/-
  No cell of these rows narrows 'for every input' (looked for: loops, veiled, ifaces, maps, wideKeys, modest, calm, conditions, laid).
  DERIVED. THE GIVEN ROWS OF THIS SEAT. 6 by the template 'for every input the law returns true; each argument reads behind the call as it read before'; 0 by the template 'total and deterministic' (their statements: YtbmcpbebjgponaaTotals.lean).
  GIVEN WITH THE SEED: the statements are not yours to turn. If you find one false, say at which input.
  Laid BY PROGRAM, IN A SANDBOX (cutbox-rows.mjs): the forced cells as the released guide's own fill.sh prints them over the translation 7400cf1985e3ef57… (all of the seat's roots in one cut). By AI agents, Wed Nov 11 2026. No macro, syntax, notation, axiom, sorry.
-/
import Derived.Test.YtbmcpbebjgponaaChecked
import GoSem.Claim
import GoSem.ClaimJoined
import GoSem.ClaimMapViews
import Derived.JoinedTies
import Derived.KernelRfl
namespace Go.Proofs.Ytbmcpbebjgponaa
/- THE CELL 'sum', in the pinned program and in every row, IS THE sha256 OF THE DUMP (.gsa) THAT YtbmcpbebjgponaaProg.lean LOADS. Nothing in Lean hashes anything: it is a label: what it is worth is what the hold of that sum in a sandbox is worth. -/
noncomputable def Try.pinned : Pinned := { name := "ytbmcpbebjgponaa", sum := "7400cf1985e3ef57add10a4f2f1a4a389f684c7a0be499e9204386c972d8d482", checked := Try.checked }
namespace Rows
def none {H : Type} : Left H := { results := [], args := [] }

/-- 'laws.FnSmallSign': WHATEVER THE INPUT: true; the input reads as it did. -/
def fnSmallSignSpec : ChangeSpec := { name := "fnSmallSign", fn := fun _ => fun
  | [d] => { results := [.lit (.bool true)], args := [d] }
  | _ => none }
def fnSmallSignRow : OpenClaim := { program := "ytbmcpbebjgponaa", sum := "7400cf1985e3ef57add10a4f2f1a4a389f684c7a0be499e9204386c972d8d482", func := "loop.example/pub-g03237/laws.FnSmallSign", spec := "fnSmallSign", recurses := true, apart := false }
def FnSmallSignSaid : Prop := fnSmallSignRow.holds Try.pinned (OpenSpec.ofChange fnSmallSignSpec)

/-- ITS FALSE NEIGHBOUR: 'it returns false'. Refute it at one input. -/
def fnSmallSignWrong : ChangeSpec := { name := "fnSmallSign", fn := fun _ => fun
  | [d] => { results := [.lit (.bool false)], args := [d] }
  | _ => none }
def FnSmallSignWrongFalsely : Prop := fnSmallSignRow.holds Try.pinned (OpenSpec.ofChange fnSmallSignWrong)

/-- 'laws.FnSmallBytes': WHATEVER THE INPUT: true; the input reads as it did. -/
def fnSmallBytesSpec : ChangeSpec := { name := "fnSmallBytes", fn := fun _ => fun
  | [d] => { results := [.lit (.bool true)], args := [d] }
  | _ => none }
def fnSmallBytesRow : OpenClaim := { program := "ytbmcpbebjgponaa", sum := "7400cf1985e3ef57add10a4f2f1a4a389f684c7a0be499e9204386c972d8d482", func := "loop.example/pub-g03237/laws.FnSmallBytes", spec := "fnSmallBytes", apart := false }
def FnSmallBytesSaid : Prop := fnSmallBytesRow.holds Try.pinned (OpenSpec.ofChange fnSmallBytesSpec)

/-- ITS FALSE NEIGHBOUR: 'it returns false'. Refute it at one input. -/
def fnSmallBytesWrong : ChangeSpec := { name := "fnSmallBytes", fn := fun _ => fun
  | [d] => { results := [.lit (.bool false)], args := [d] }
  | _ => none }
def FnSmallBytesWrongFalsely : Prop := fnSmallBytesRow.holds Try.pinned (OpenSpec.ofChange fnSmallBytesWrong)

/-- 'laws.FnInt64Of': WHATEVER THE INPUT: true; the input reads as it did. -/
def fnInt64OfSpec : ChangeSpec := { name := "fnInt64Of", fn := fun _ => fun
  | [d] => { results := [.lit (.bool true)], args := [d] }
  | _ => none }
def fnInt64OfRow : OpenClaim := { program := "ytbmcpbebjgponaa", sum := "7400cf1985e3ef57add10a4f2f1a4a389f684c7a0be499e9204386c972d8d482", func := "loop.example/pub-g03237/laws.FnInt64Of", spec := "fnInt64Of", apart := false }
def FnInt64OfSaid : Prop := fnInt64OfRow.holds Try.pinned (OpenSpec.ofChange fnInt64OfSpec)

/-- ITS FALSE NEIGHBOUR: 'it returns false'. Refute it at one input. -/
def fnInt64OfWrong : ChangeSpec := { name := "fnInt64Of", fn := fun _ => fun
  | [d] => { results := [.lit (.bool false)], args := [d] }
  | _ => none }
def FnInt64OfWrongFalsely : Prop := fnInt64OfRow.holds Try.pinned (OpenSpec.ofChange fnInt64OfWrong)

/-- 'laws.FnFromUint64': WHATEVER THE INPUT: true; the input reads as it did. -/
def fnFromUint64Spec : ChangeSpec := { name := "fnFromUint64", fn := fun _ => fun
  | [d] => { results := [.lit (.bool true)], args := [d] }
  | _ => none }
def fnFromUint64Row : OpenClaim := { program := "ytbmcpbebjgponaa", sum := "7400cf1985e3ef57add10a4f2f1a4a389f684c7a0be499e9204386c972d8d482", func := "loop.example/pub-g03237/laws.FnFromUint64", spec := "fnFromUint64", apart := false }
def FnFromUint64Said : Prop := fnFromUint64Row.holds Try.pinned (OpenSpec.ofChange fnFromUint64Spec)

/-- ITS FALSE NEIGHBOUR: 'it returns false'. Refute it at one input. -/
def fnFromUint64Wrong : ChangeSpec := { name := "fnFromUint64", fn := fun _ => fun
  | [d] => { results := [.lit (.bool false)], args := [d] }
  | _ => none }
def FnFromUint64WrongFalsely : Prop := fnFromUint64Row.holds Try.pinned (OpenSpec.ofChange fnFromUint64Wrong)

/-- 'laws.FnBackOf': WHATEVER THE INPUT: true; the input reads as it did. -/
def fnBackOfSpec : ChangeSpec := { name := "fnBackOf", fn := fun _ => fun
  | [d] => { results := [.lit (.bool true)], args := [d] }
  | _ => none }
def fnBackOfRow : OpenClaim := { program := "ytbmcpbebjgponaa", sum := "7400cf1985e3ef57add10a4f2f1a4a389f684c7a0be499e9204386c972d8d482", func := "loop.example/pub-g03237/laws.FnBackOf", spec := "fnBackOf", apart := false }
def FnBackOfSaid : Prop := fnBackOfRow.holds Try.pinned (OpenSpec.ofChange fnBackOfSpec)

/-- ITS FALSE NEIGHBOUR: 'it returns false'. Refute it at one input. -/
def fnBackOfWrong : ChangeSpec := { name := "fnBackOf", fn := fun _ => fun
  | [d] => { results := [.lit (.bool false)], args := [d] }
  | _ => none }
def FnBackOfWrongFalsely : Prop := fnBackOfRow.holds Try.pinned (OpenSpec.ofChange fnBackOfWrong)

/-- 'laws.FnShiftOf': WHATEVER THE INPUT: true; the input reads as it did. -/
def fnShiftOfSpec : ChangeSpec := { name := "fnShiftOf", fn := fun _ => fun
  | [d1, d2, d3] => { results := [.lit (.bool true)], args := [d1, d2, d3] }
  | _ => none }
def fnShiftOfRow : OpenClaim := { program := "ytbmcpbebjgponaa", sum := "7400cf1985e3ef57add10a4f2f1a4a389f684c7a0be499e9204386c972d8d482", func := "loop.example/pub-g03237/laws.FnShiftOf", spec := "fnShiftOf", inPlace := ["math/bits.Sub64", "math/bits.Add64"], recurses := true, apart := false }
def FnShiftOfSaid : Prop := fnShiftOfRow.holds Try.pinned (OpenSpec.ofChange fnShiftOfSpec)

/-- ITS FALSE NEIGHBOUR: 'it returns false'. Refute it at one input. -/
def fnShiftOfWrong : ChangeSpec := { name := "fnShiftOf", fn := fun _ => fun
  | [d1, d2, d3] => { results := [.lit (.bool false)], args := [d1, d2, d3] }
  | _ => none }
def FnShiftOfWrongFalsely : Prop := fnShiftOfRow.holds Try.pinned (OpenSpec.ofChange fnShiftOfWrong)

/- THE SECOND FORM. 'bulk': how many values and letters a reading holds, each counted each time it is reached (what is shared counts as often as it is met; a slice's spare places count too). A statement '..UptoSaid' is the law's where the arguments, and the package variables that the reading takes, are together of bulk at most 1048576: NARROWER than '..Said'. Prove '..Said' where nothing that the law and all that it calls make is longer than what came in: it says more and counts as full. Else prove '..UptoSaid'. A law counts once. -/
mutual
def uptoBulk {H : Type} : DataW H → Nat
  | .lit (.string bytes) => bytes.length + 1
  | .lit _ => 1
  | .nil => 1
  | .ptr d => uptoBulk d + 1
  | .slice elems spare => uptoBulkAll elems + uptoBulkAll spare + 1
  | .agg parts => uptoBulkAll parts + 1
  | .iface _ d => uptoBulk d + 1
  | .map entries => uptoBulkEntries entries + 1
  | .held _ => 1
def uptoBulkAll {H : Type} : List (DataW H) → Nat
  | [] => 0
  | d :: r => uptoBulk d + uptoBulkAll r
def uptoBulkEntries {H : Type} : List (Lit × DataW H) → Nat
  | [] => 0
  | x :: r => uptoBulkEntry x + uptoBulkEntries r
def uptoBulkEntry {H : Type} : Lit × DataW H → Nat
  | (.string bytes, d) => bytes.length + uptoBulk d + 1
  | (_, d) => uptoBulk d + 1
 end
def uptoSmall : (H : Type) → List (DataW H) → Bool := fun _ ds => decide (uptoBulkAll ds ≤ 1048576)
def OpenSpec.upto (s : _root_.Go.ChangeSpec) : _root_.Go.OpenSpec := { _root_.Go.OpenSpec.ofChange s with cond := some uptoSmall }

/-- 'laws.FnSmallSign', WHERE WHAT IT READS IS OF BULK AT MOST 1048576: true; the input reads as it did. -/
def fnSmallSignUptoRow : OpenClaim := { program := "ytbmcpbebjgponaa", sum := "7400cf1985e3ef57add10a4f2f1a4a389f684c7a0be499e9204386c972d8d482", func := "loop.example/pub-g03237/laws.FnSmallSign", spec := "fnSmallSign", recurses := true, apart := false, narrowed := true }
def FnSmallSignUptoSaid : Prop := fnSmallSignUptoRow.holds Try.pinned (OpenSpec.upto fnSmallSignSpec)

/-- 'laws.FnSmallBytes', WHERE WHAT IT READS IS OF BULK AT MOST 1048576: true; the input reads as it did. -/
def fnSmallBytesUptoRow : OpenClaim := { program := "ytbmcpbebjgponaa", sum := "7400cf1985e3ef57add10a4f2f1a4a389f684c7a0be499e9204386c972d8d482", func := "loop.example/pub-g03237/laws.FnSmallBytes", spec := "fnSmallBytes", apart := false, narrowed := true }
def FnSmallBytesUptoSaid : Prop := fnSmallBytesUptoRow.holds Try.pinned (OpenSpec.upto fnSmallBytesSpec)

/-- 'laws.FnInt64Of', WHERE WHAT IT READS IS OF BULK AT MOST 1048576: true; the input reads as it did. -/
def fnInt64OfUptoRow : OpenClaim := { program := "ytbmcpbebjgponaa", sum := "7400cf1985e3ef57add10a4f2f1a4a389f684c7a0be499e9204386c972d8d482", func := "loop.example/pub-g03237/laws.FnInt64Of", spec := "fnInt64Of", apart := false, narrowed := true }
def FnInt64OfUptoSaid : Prop := fnInt64OfUptoRow.holds Try.pinned (OpenSpec.upto fnInt64OfSpec)

/-- 'laws.FnFromUint64', WHERE WHAT IT READS IS OF BULK AT MOST 1048576: true; the input reads as it did. -/
def fnFromUint64UptoRow : OpenClaim := { program := "ytbmcpbebjgponaa", sum := "7400cf1985e3ef57add10a4f2f1a4a389f684c7a0be499e9204386c972d8d482", func := "loop.example/pub-g03237/laws.FnFromUint64", spec := "fnFromUint64", apart := false, narrowed := true }
def FnFromUint64UptoSaid : Prop := fnFromUint64UptoRow.holds Try.pinned (OpenSpec.upto fnFromUint64Spec)

/-- 'laws.FnBackOf', WHERE WHAT IT READS IS OF BULK AT MOST 1048576: true; the input reads as it did. -/
def fnBackOfUptoRow : OpenClaim := { program := "ytbmcpbebjgponaa", sum := "7400cf1985e3ef57add10a4f2f1a4a389f684c7a0be499e9204386c972d8d482", func := "loop.example/pub-g03237/laws.FnBackOf", spec := "fnBackOf", apart := false, narrowed := true }
def FnBackOfUptoSaid : Prop := fnBackOfUptoRow.holds Try.pinned (OpenSpec.upto fnBackOfSpec)

/-- 'laws.FnShiftOf', WHERE WHAT IT READS IS OF BULK AT MOST 1048576: true; the input reads as it did. -/
def fnShiftOfUptoRow : OpenClaim := { program := "ytbmcpbebjgponaa", sum := "7400cf1985e3ef57add10a4f2f1a4a389f684c7a0be499e9204386c972d8d482", func := "loop.example/pub-g03237/laws.FnShiftOf", spec := "fnShiftOf", inPlace := ["math/bits.Sub64", "math/bits.Add64"], recurses := true, apart := false, narrowed := true }
def FnShiftOfUptoSaid : Prop := fnShiftOfUptoRow.holds Try.pinned (OpenSpec.upto fnShiftOfSpec)

end Rows
end Go.Proofs.Ytbmcpbebjgponaa
