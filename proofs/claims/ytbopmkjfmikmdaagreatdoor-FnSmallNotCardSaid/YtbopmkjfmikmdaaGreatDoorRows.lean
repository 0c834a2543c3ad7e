/-
  NARROWER THAN 'FOR EVERY INPUT', by the rows' own cells (each row's printed sentence says how): FnSmallNot: laid · FnSmallCompare: laid · FnTruthCompare: laid · FnTextCompare: laid.
  DERIVED. THE GIVEN ROWS OF THIS SEAT. 4 by the template 'for every input the law returns true; each argument reads behind the call as it read before'; 0 by the template 'total and deterministic' (their statements: YtbopmkjfmikmdaaGreatDoorTotals.lean).
  GIVEN WITH THE SEED: the statements are not yours to turn. If you find one false, say at which input.
  Laid BY PROGRAM, IN A SANDBOX (cutbox-rows.mjs): the forced cells as the released guide's own fill.sh prints them over the translation a8c45dd0797bc1a5… (all of the seat's roots in one cut). By AI agents, Wed Nov 11 2026. No macro, syntax, notation, axiom, sorry.
-/
import Derived.Test.YtbopmkjfmikmdaaGreatDoorChecked
import GoSem.Claim
import GoSem.ClaimJoined
import GoSem.ClaimMapViews
import Derived.JoinedTies
import Derived.KernelRfl
namespace Go.Proofs.YtbopmkjfmikmdaaGreatDoor
/- THE CELL 'sum', in the pinned program and in every row, IS THE sha256 OF THE DUMP (.gsa) THAT YtbopmkjfmikmdaaGreatDoorProg.lean LOADS. Nothing in Lean hashes anything: it is a label: what it is worth is what the hold of that sum in a sandbox is worth. -/
noncomputable def Tryz.pinned : Pinned := { name := "ytbopmkjfmikmdaagreatdoor", sum := "a8c45dd0797bc1a515c8d887bc13e540c9c470c23d3a32746c24a463a6e9731c", checked := Tryz.checked }
namespace Rows
def none {H : Type} : Left H := { results := [], args := [] }

/- WHAT THE LISTED PACKAGE-LEVEL VARIABLES READ AS WHEN THE CALL BEGINS. Each datum BY PROGRAM (the guide's laid-datum.mjs) off the statement by which the dump's own 'gosem.cut.vars' lays the variable. In a bare row this is a premise. The card (YtbopmkjfmikmdaaGreatDoorCards.lean) ties it to the program's text. -/
def laid_loop_example_pub_g03237_pub_bigall_divRecursiveThreshold {H : Type} : DataW H := .lit (.int .i64 40)
def laid_loop_example_pub_g03237_pub_bigall_karatsubaThreshold {H : Type} : DataW H := .lit (.int .i64 40)
def laid_loop_example_pub_g03237_pub_bigall_basicSqrThreshold {H : Type} : DataW H := .lit (.int .i64 12)
def laid_loop_example_pub_g03237_pub_bigall_karatsubaSqrThreshold {H : Type} : DataW H := .lit (.int .i64 80)

/-- 'laws.FnSmallNot': WHATEVER THE INPUT: true; the input reads as it did. -/
def fnSmallNotSpec : ChangeSpec := { name := "fnSmallNot", vars := ["loop.example/pub-g03237/pub/bigall.divRecursiveThreshold", "loop.example/pub-g03237/pub/bigall.karatsubaThreshold", "loop.example/pub-g03237/pub/bigall.basicSqrThreshold", "loop.example/pub-g03237/pub/bigall.karatsubaSqrThreshold"], fn := fun _ => fun
  | [d1, d2, g1, g2, g3, g4] => { results := [.lit (.bool true)], args := [d1, d2], vars := [g1, g2, g3, g4] }
  | _ => none }
def fnSmallNotRow : OpenClaim := { program := "ytbopmkjfmikmdaagreatdoor", sum := "a8c45dd0797bc1a515c8d887bc13e540c9c470c23d3a32746c24a463a6e9731c", func := "loop.example/pub-g03237/laws.FnSmallNot", spec := "fnSmallNot", inPlace := ["math/bits.Add64", "math/bits.Sub64"], unfollowed := true, recurses := true, named := ["loop.example/pub-g03237/pub/bigall.divRecursiveThreshold", "loop.example/pub-g03237/pub/bigall.karatsubaThreshold", "loop.example/pub-g03237/pub/bigall.basicSqrThreshold", "loop.example/pub-g03237/pub/bigall.karatsubaSqrThreshold"], apart := false, laid := [("loop.example/pub-g03237/pub/bigall.divRecursiveThreshold", laid_loop_example_pub_g03237_pub_bigall_divRecursiveThreshold), ("loop.example/pub-g03237/pub/bigall.karatsubaThreshold", laid_loop_example_pub_g03237_pub_bigall_karatsubaThreshold), ("loop.example/pub-g03237/pub/bigall.basicSqrThreshold", laid_loop_example_pub_g03237_pub_bigall_basicSqrThreshold), ("loop.example/pub-g03237/pub/bigall.karatsubaSqrThreshold", laid_loop_example_pub_g03237_pub_bigall_karatsubaSqrThreshold)] }
def FnSmallNotSaid : Prop := fnSmallNotRow.holds Tryz.pinned (OpenSpec.ofChange fnSmallNotSpec)

/-- ITS FALSE NEIGHBOUR: 'it returns false'. Refute it at one input. -/
def fnSmallNotWrong : ChangeSpec := { name := "fnSmallNot", vars := ["loop.example/pub-g03237/pub/bigall.divRecursiveThreshold", "loop.example/pub-g03237/pub/bigall.karatsubaThreshold", "loop.example/pub-g03237/pub/bigall.basicSqrThreshold", "loop.example/pub-g03237/pub/bigall.karatsubaSqrThreshold"], fn := fun _ => fun
  | [d1, d2, g1, g2, g3, g4] => { results := [.lit (.bool false)], args := [d1, d2], vars := [g1, g2, g3, g4] }
  | _ => none }
def FnSmallNotWrongFalsely : Prop := fnSmallNotRow.holds Tryz.pinned (OpenSpec.ofChange fnSmallNotWrong)

/-- 'laws.FnSmallCompare': WHATEVER THE INPUT: true; the input reads as it did. -/
def fnSmallCompareSpec : ChangeSpec := { name := "fnSmallCompare", vars := ["loop.example/pub-g03237/pub/bigall.divRecursiveThreshold", "loop.example/pub-g03237/pub/bigall.karatsubaThreshold", "loop.example/pub-g03237/pub/bigall.basicSqrThreshold", "loop.example/pub-g03237/pub/bigall.karatsubaSqrThreshold"], fn := fun _ => fun
  | [d1, d2, d3, g1, g2, g3, g4] => { results := [.lit (.bool true)], args := [d1, d2, d3], vars := [g1, g2, g3, g4] }
  | _ => none }
def fnSmallCompareRow : OpenClaim := { program := "ytbopmkjfmikmdaagreatdoor", sum := "a8c45dd0797bc1a515c8d887bc13e540c9c470c23d3a32746c24a463a6e9731c", func := "loop.example/pub-g03237/laws.FnSmallCompare", spec := "fnSmallCompare", inPlace := ["math/bits.Add64", "math/bits.Sub64", "(*internal/sync.Mutex).Lock", "internal/race.Disable", "sync/atomic.CompareAndSwapInt32", "internal/race.Enable", "internal/race.Acquire", "(*internal/sync.Mutex).lockSlow", "internal/sync.runtime_canSpin", "internal/sync.runtime_doSpin", "internal/sync.throw", "internal/sync.runtime_nanotime", "internal/sync.runtime_SemacquireMutex", "sync/atomic.AddInt32", "(*internal/sync.Mutex).Unlock", "internal/race.ReleaseMerge", "(*internal/sync.Mutex).unlockSlow", "internal/sync.fatal", "internal/sync.runtime_Semrelease", "internal/abi.NoEscape", "internal/bytealg.MakeNoZero"], recurses := true, named := ["loop.example/pub-g03237/pub/bigall.divRecursiveThreshold", "loop.example/pub-g03237/pub/bigall.karatsubaThreshold", "loop.example/pub-g03237/pub/bigall.basicSqrThreshold", "loop.example/pub-g03237/pub/bigall.karatsubaSqrThreshold"], apart := false, laid := [("loop.example/pub-g03237/pub/bigall.divRecursiveThreshold", laid_loop_example_pub_g03237_pub_bigall_divRecursiveThreshold), ("loop.example/pub-g03237/pub/bigall.karatsubaThreshold", laid_loop_example_pub_g03237_pub_bigall_karatsubaThreshold), ("loop.example/pub-g03237/pub/bigall.basicSqrThreshold", laid_loop_example_pub_g03237_pub_bigall_basicSqrThreshold), ("loop.example/pub-g03237/pub/bigall.karatsubaSqrThreshold", laid_loop_example_pub_g03237_pub_bigall_karatsubaSqrThreshold)] }
def FnSmallCompareSaid : Prop := fnSmallCompareRow.holds Tryz.pinned (OpenSpec.ofChange fnSmallCompareSpec)

/-- ITS FALSE NEIGHBOUR: 'it returns false'. Refute it at one input. -/
def fnSmallCompareWrong : ChangeSpec := { name := "fnSmallCompare", vars := ["loop.example/pub-g03237/pub/bigall.divRecursiveThreshold", "loop.example/pub-g03237/pub/bigall.karatsubaThreshold", "loop.example/pub-g03237/pub/bigall.basicSqrThreshold", "loop.example/pub-g03237/pub/bigall.karatsubaSqrThreshold"], fn := fun _ => fun
  | [d1, d2, d3, g1, g2, g3, g4] => { results := [.lit (.bool false)], args := [d1, d2, d3], vars := [g1, g2, g3, g4] }
  | _ => none }
def FnSmallCompareWrongFalsely : Prop := fnSmallCompareRow.holds Tryz.pinned (OpenSpec.ofChange fnSmallCompareWrong)

/-- 'laws.FnTruthCompare': WHATEVER THE INPUT: true; the input reads as it did. -/
def fnTruthCompareSpec : ChangeSpec := { name := "fnTruthCompare", vars := ["loop.example/pub-g03237/pub/bigall.divRecursiveThreshold", "loop.example/pub-g03237/pub/bigall.karatsubaThreshold", "loop.example/pub-g03237/pub/bigall.basicSqrThreshold", "loop.example/pub-g03237/pub/bigall.karatsubaSqrThreshold"], fn := fun _ => fun
  | [d1, d2, d3, g1, g2, g3, g4] => { results := [.lit (.bool true)], args := [d1, d2, d3], vars := [g1, g2, g3, g4] }
  | _ => none }
def fnTruthCompareRow : OpenClaim := { program := "ytbopmkjfmikmdaagreatdoor", sum := "a8c45dd0797bc1a515c8d887bc13e540c9c470c23d3a32746c24a463a6e9731c", func := "loop.example/pub-g03237/laws.FnTruthCompare", spec := "fnTruthCompare", inPlace := ["math/bits.Add64", "math/bits.Sub64", "(*internal/sync.Mutex).Lock", "internal/race.Disable", "sync/atomic.CompareAndSwapInt32", "internal/race.Enable", "internal/race.Acquire", "(*internal/sync.Mutex).lockSlow", "internal/sync.runtime_canSpin", "internal/sync.runtime_doSpin", "internal/sync.throw", "internal/sync.runtime_nanotime", "internal/sync.runtime_SemacquireMutex", "sync/atomic.AddInt32", "(*internal/sync.Mutex).Unlock", "internal/race.ReleaseMerge", "(*internal/sync.Mutex).unlockSlow", "internal/sync.fatal", "internal/sync.runtime_Semrelease", "internal/abi.NoEscape", "internal/bytealg.MakeNoZero"], recurses := true, named := ["loop.example/pub-g03237/pub/bigall.divRecursiveThreshold", "loop.example/pub-g03237/pub/bigall.karatsubaThreshold", "loop.example/pub-g03237/pub/bigall.basicSqrThreshold", "loop.example/pub-g03237/pub/bigall.karatsubaSqrThreshold"], apart := false, laid := [("loop.example/pub-g03237/pub/bigall.divRecursiveThreshold", laid_loop_example_pub_g03237_pub_bigall_divRecursiveThreshold), ("loop.example/pub-g03237/pub/bigall.karatsubaThreshold", laid_loop_example_pub_g03237_pub_bigall_karatsubaThreshold), ("loop.example/pub-g03237/pub/bigall.basicSqrThreshold", laid_loop_example_pub_g03237_pub_bigall_basicSqrThreshold), ("loop.example/pub-g03237/pub/bigall.karatsubaSqrThreshold", laid_loop_example_pub_g03237_pub_bigall_karatsubaSqrThreshold)] }
def FnTruthCompareSaid : Prop := fnTruthCompareRow.holds Tryz.pinned (OpenSpec.ofChange fnTruthCompareSpec)

/-- ITS FALSE NEIGHBOUR: 'it returns false'. Refute it at one input. -/
def fnTruthCompareWrong : ChangeSpec := { name := "fnTruthCompare", vars := ["loop.example/pub-g03237/pub/bigall.divRecursiveThreshold", "loop.example/pub-g03237/pub/bigall.karatsubaThreshold", "loop.example/pub-g03237/pub/bigall.basicSqrThreshold", "loop.example/pub-g03237/pub/bigall.karatsubaSqrThreshold"], fn := fun _ => fun
  | [d1, d2, d3, g1, g2, g3, g4] => { results := [.lit (.bool false)], args := [d1, d2, d3], vars := [g1, g2, g3, g4] }
  | _ => none }
def FnTruthCompareWrongFalsely : Prop := fnTruthCompareRow.holds Tryz.pinned (OpenSpec.ofChange fnTruthCompareWrong)

/-- 'laws.FnTextCompare': WHATEVER THE INPUT: true; the input reads as it did. -/
def fnTextCompareSpec : ChangeSpec := { name := "fnTextCompare", vars := ["loop.example/pub-g03237/pub/bigall.divRecursiveThreshold", "loop.example/pub-g03237/pub/bigall.karatsubaThreshold", "loop.example/pub-g03237/pub/bigall.basicSqrThreshold", "loop.example/pub-g03237/pub/bigall.karatsubaSqrThreshold"], fn := fun _ => fun
  | [d1, d2, d3, g1, g2, g3, g4] => { results := [.lit (.bool true)], args := [d1, d2, d3], vars := [g1, g2, g3, g4] }
  | _ => none }
def fnTextCompareRow : OpenClaim := { program := "ytbopmkjfmikmdaagreatdoor", sum := "a8c45dd0797bc1a515c8d887bc13e540c9c470c23d3a32746c24a463a6e9731c", func := "loop.example/pub-g03237/laws.FnTextCompare", spec := "fnTextCompare", inPlace := ["math/bits.Add64", "math/bits.Sub64", "(*internal/sync.Mutex).Lock", "internal/race.Disable", "sync/atomic.CompareAndSwapInt32", "internal/race.Enable", "internal/race.Acquire", "(*internal/sync.Mutex).lockSlow", "internal/sync.runtime_canSpin", "internal/sync.runtime_doSpin", "internal/sync.throw", "internal/sync.runtime_nanotime", "internal/sync.runtime_SemacquireMutex", "sync/atomic.AddInt32", "(*internal/sync.Mutex).Unlock", "internal/race.ReleaseMerge", "(*internal/sync.Mutex).unlockSlow", "internal/sync.fatal", "internal/sync.runtime_Semrelease", "internal/abi.NoEscape", "internal/bytealg.MakeNoZero"], recurses := true, named := ["loop.example/pub-g03237/pub/bigall.divRecursiveThreshold", "loop.example/pub-g03237/pub/bigall.karatsubaThreshold", "loop.example/pub-g03237/pub/bigall.basicSqrThreshold", "loop.example/pub-g03237/pub/bigall.karatsubaSqrThreshold"], apart := false, laid := [("loop.example/pub-g03237/pub/bigall.divRecursiveThreshold", laid_loop_example_pub_g03237_pub_bigall_divRecursiveThreshold), ("loop.example/pub-g03237/pub/bigall.karatsubaThreshold", laid_loop_example_pub_g03237_pub_bigall_karatsubaThreshold), ("loop.example/pub-g03237/pub/bigall.basicSqrThreshold", laid_loop_example_pub_g03237_pub_bigall_basicSqrThreshold), ("loop.example/pub-g03237/pub/bigall.karatsubaSqrThreshold", laid_loop_example_pub_g03237_pub_bigall_karatsubaSqrThreshold)] }
def FnTextCompareSaid : Prop := fnTextCompareRow.holds Tryz.pinned (OpenSpec.ofChange fnTextCompareSpec)

/-- ITS FALSE NEIGHBOUR: 'it returns false'. Refute it at one input. -/
def fnTextCompareWrong : ChangeSpec := { name := "fnTextCompare", vars := ["loop.example/pub-g03237/pub/bigall.divRecursiveThreshold", "loop.example/pub-g03237/pub/bigall.karatsubaThreshold", "loop.example/pub-g03237/pub/bigall.basicSqrThreshold", "loop.example/pub-g03237/pub/bigall.karatsubaSqrThreshold"], fn := fun _ => fun
  | [d1, d2, d3, g1, g2, g3, g4] => { results := [.lit (.bool false)], args := [d1, d2, d3], vars := [g1, g2, g3, g4] }
  | _ => none }
def FnTextCompareWrongFalsely : Prop := fnTextCompareRow.holds Tryz.pinned (OpenSpec.ofChange fnTextCompareWrong)

/- THE SECOND FORM. 'bulk': how many values and letters a reading holds, each counted each time it is reached (what is shared counts as often as it is met; a slice's spare places count too). A statement '..UptoSaid' is the law's where the arguments, and the package variables that the reading takes, are together of bulk at most 1048576: NARROWER than '..Said'. Prove '..Said' where nothing that the law and all that it calls make is longer than what came in: it says more and counts as full. Else prove '..UptoSaid'. A law counts once. -/
mutual
def uptoBulk {H : Type} : DataW H → Nat
  | .lit (.string bytes) => bytes.length + 1
  | .lit _ => 1
  | .nil => 1
  | .ptr d => uptoBulk d + 1
  | .slice elems spare => uptoBulkAll elems + uptoBulkAll spare + 1
  | .agg parts => uptoBulkAll parts + 1
  | .iface _ d => uptoBulk d + 1
  | .map entries => uptoBulkEntries entries + 1
  | .held _ => 1
def uptoBulkAll {H : Type} : List (DataW H) → Nat
  | [] => 0
  | d :: r => uptoBulk d + uptoBulkAll r
def uptoBulkEntries {H : Type} : List (Lit × DataW H) → Nat
  | [] => 0
  | x :: r => uptoBulkEntry x + uptoBulkEntries r
def uptoBulkEntry {H : Type} : Lit × DataW H → Nat
  | (.string bytes, d) => bytes.length + uptoBulk d + 1
  | (_, d) => uptoBulk d + 1
 end
def uptoSmall : (H : Type) → List (DataW H) → Bool := fun _ ds => decide (uptoBulkAll ds ≤ 1048576)
def OpenSpec.upto (s : _root_.Go.ChangeSpec) : _root_.Go.OpenSpec := { _root_.Go.OpenSpec.ofChange s with cond := some uptoSmall }

/-- 'laws.FnSmallNot', WHERE WHAT IT READS IS OF BULK AT MOST 1048576: true; the input reads as it did. -/
def fnSmallNotUptoRow : OpenClaim := { program := "ytbopmkjfmikmdaagreatdoor", sum := "a8c45dd0797bc1a515c8d887bc13e540c9c470c23d3a32746c24a463a6e9731c", func := "loop.example/pub-g03237/laws.FnSmallNot", spec := "fnSmallNot", inPlace := ["math/bits.Add64", "math/bits.Sub64"], unfollowed := true, recurses := true, named := ["loop.example/pub-g03237/pub/bigall.divRecursiveThreshold", "loop.example/pub-g03237/pub/bigall.karatsubaThreshold", "loop.example/pub-g03237/pub/bigall.basicSqrThreshold", "loop.example/pub-g03237/pub/bigall.karatsubaSqrThreshold"], apart := false, laid := [("loop.example/pub-g03237/pub/bigall.divRecursiveThreshold", laid_loop_example_pub_g03237_pub_bigall_divRecursiveThreshold), ("loop.example/pub-g03237/pub/bigall.karatsubaThreshold", laid_loop_example_pub_g03237_pub_bigall_karatsubaThreshold), ("loop.example/pub-g03237/pub/bigall.basicSqrThreshold", laid_loop_example_pub_g03237_pub_bigall_basicSqrThreshold), ("loop.example/pub-g03237/pub/bigall.karatsubaSqrThreshold", laid_loop_example_pub_g03237_pub_bigall_karatsubaSqrThreshold)], narrowed := true }
def FnSmallNotUptoSaid : Prop := fnSmallNotUptoRow.holds Tryz.pinned (OpenSpec.upto fnSmallNotSpec)

/-- 'laws.FnSmallCompare', WHERE WHAT IT READS IS OF BULK AT MOST 1048576: true; the input reads as it did. -/
def fnSmallCompareUptoRow : OpenClaim := { program := "ytbopmkjfmikmdaagreatdoor", sum := "a8c45dd0797bc1a515c8d887bc13e540c9c470c23d3a32746c24a463a6e9731c", func := "loop.example/pub-g03237/laws.FnSmallCompare", spec := "fnSmallCompare", inPlace := ["math/bits.Add64", "math/bits.Sub64", "(*internal/sync.Mutex).Lock", "internal/race.Disable", "sync/atomic.CompareAndSwapInt32", "internal/race.Enable", "internal/race.Acquire", "(*internal/sync.Mutex).lockSlow", "internal/sync.runtime_canSpin", "internal/sync.runtime_doSpin", "internal/sync.throw", "internal/sync.runtime_nanotime", "internal/sync.runtime_SemacquireMutex", "sync/atomic.AddInt32", "(*internal/sync.Mutex).Unlock", "internal/race.ReleaseMerge", "(*internal/sync.Mutex).unlockSlow", "internal/sync.fatal", "internal/sync.runtime_Semrelease", "internal/abi.NoEscape", "internal/bytealg.MakeNoZero"], recurses := true, named := ["loop.example/pub-g03237/pub/bigall.divRecursiveThreshold", "loop.example/pub-g03237/pub/bigall.karatsubaThreshold", "loop.example/pub-g03237/pub/bigall.basicSqrThreshold", "loop.example/pub-g03237/pub/bigall.karatsubaSqrThreshold"], apart := false, laid := [("loop.example/pub-g03237/pub/bigall.divRecursiveThreshold", laid_loop_example_pub_g03237_pub_bigall_divRecursiveThreshold), ("loop.example/pub-g03237/pub/bigall.karatsubaThreshold", laid_loop_example_pub_g03237_pub_bigall_karatsubaThreshold), ("loop.example/pub-g03237/pub/bigall.basicSqrThreshold", laid_loop_example_pub_g03237_pub_bigall_basicSqrThreshold), ("loop.example/pub-g03237/pub/bigall.karatsubaSqrThreshold", laid_loop_example_pub_g03237_pub_bigall_karatsubaSqrThreshold)], narrowed := true }
def FnSmallCompareUptoSaid : Prop := fnSmallCompareUptoRow.holds Tryz.pinned (OpenSpec.upto fnSmallCompareSpec)

/-- 'laws.FnTruthCompare', WHERE WHAT IT READS IS OF BULK AT MOST 1048576: true; the input reads as it did. -/
def fnTruthCompareUptoRow : OpenClaim := { program := "ytbopmkjfmikmdaagreatdoor", sum := "a8c45dd0797bc1a515c8d887bc13e540c9c470c23d3a32746c24a463a6e9731c", func := "loop.example/pub-g03237/laws.FnTruthCompare", spec := "fnTruthCompare", inPlace := ["math/bits.Add64", "math/bits.Sub64", "(*internal/sync.Mutex).Lock", "internal/race.Disable", "sync/atomic.CompareAndSwapInt32", "internal/race.Enable", "internal/race.Acquire", "(*internal/sync.Mutex).lockSlow", "internal/sync.runtime_canSpin", "internal/sync.runtime_doSpin", "internal/sync.throw", "internal/sync.runtime_nanotime", "internal/sync.runtime_SemacquireMutex", "sync/atomic.AddInt32", "(*internal/sync.Mutex).Unlock", "internal/race.ReleaseMerge", "(*internal/sync.Mutex).unlockSlow", "internal/sync.fatal", "internal/sync.runtime_Semrelease", "internal/abi.NoEscape", "internal/bytealg.MakeNoZero"], recurses := true, named := ["loop.example/pub-g03237/pub/bigall.divRecursiveThreshold", "loop.example/pub-g03237/pub/bigall.karatsubaThreshold", "loop.example/pub-g03237/pub/bigall.basicSqrThreshold", "loop.example/pub-g03237/pub/bigall.karatsubaSqrThreshold"], apart := false, laid := [("loop.example/pub-g03237/pub/bigall.divRecursiveThreshold", laid_loop_example_pub_g03237_pub_bigall_divRecursiveThreshold), ("loop.example/pub-g03237/pub/bigall.karatsubaThreshold", laid_loop_example_pub_g03237_pub_bigall_karatsubaThreshold), ("loop.example/pub-g03237/pub/bigall.basicSqrThreshold", laid_loop_example_pub_g03237_pub_bigall_basicSqrThreshold), ("loop.example/pub-g03237/pub/bigall.karatsubaSqrThreshold", laid_loop_example_pub_g03237_pub_bigall_karatsubaSqrThreshold)], narrowed := true }
def FnTruthCompareUptoSaid : Prop := fnTruthCompareUptoRow.holds Tryz.pinned (OpenSpec.upto fnTruthCompareSpec)

/-- 'laws.FnTextCompare', WHERE WHAT IT READS IS OF BULK AT MOST 1048576: true; the input reads as it did. -/
def fnTextCompareUptoRow : OpenClaim := { program := "ytbopmkjfmikmdaagreatdoor", sum := "a8c45dd0797bc1a515c8d887bc13e540c9c470c23d3a32746c24a463a6e9731c", func := "loop.example/pub-g03237/laws.FnTextCompare", spec := "fnTextCompare", inPlace := ["math/bits.Add64", "math/bits.Sub64", "(*internal/sync.Mutex).Lock", "internal/race.Disable", "sync/atomic.CompareAndSwapInt32", "internal/race.Enable", "internal/race.Acquire", "(*internal/sync.Mutex).lockSlow", "internal/sync.runtime_canSpin", "internal/sync.runtime_doSpin", "internal/sync.throw", "internal/sync.runtime_nanotime", "internal/sync.runtime_SemacquireMutex", "sync/atomic.AddInt32", "(*internal/sync.Mutex).Unlock", "internal/race.ReleaseMerge", "(*internal/sync.Mutex).unlockSlow", "internal/sync.fatal", "internal/sync.runtime_Semrelease", "internal/abi.NoEscape", "internal/bytealg.MakeNoZero"], recurses := true, named := ["loop.example/pub-g03237/pub/bigall.divRecursiveThreshold", "loop.example/pub-g03237/pub/bigall.karatsubaThreshold", "loop.example/pub-g03237/pub/bigall.basicSqrThreshold", "loop.example/pub-g03237/pub/bigall.karatsubaSqrThreshold"], apart := false, laid := [("loop.example/pub-g03237/pub/bigall.divRecursiveThreshold", laid_loop_example_pub_g03237_pub_bigall_divRecursiveThreshold), ("loop.example/pub-g03237/pub/bigall.karatsubaThreshold", laid_loop_example_pub_g03237_pub_bigall_karatsubaThreshold), ("loop.example/pub-g03237/pub/bigall.basicSqrThreshold", laid_loop_example_pub_g03237_pub_bigall_basicSqrThreshold), ("loop.example/pub-g03237/pub/bigall.karatsubaSqrThreshold", laid_loop_example_pub_g03237_pub_bigall_karatsubaSqrThreshold)], narrowed := true }
def FnTextCompareUptoSaid : Prop := fnTextCompareUptoRow.holds Tryz.pinned (OpenSpec.upto fnTextCompareSpec)

end Rows
end Go.Proofs.YtbopmkjfmikmdaaGreatDoor
