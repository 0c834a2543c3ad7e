/-
  DERIVED. GIVEN WITH THE SEED: THE CARDS: each row of YtdfedhmejilnhaaGreatDoorRows.lean that lists a variable, with what it lists TIED to the program's text (the seventh form; the later family's looks); each row that meets fmt, with fmt's text TOLD by the authors' own Lean function (tested against real Go, not proved from fmt's source: count such statements apart). THE CARD IS WHAT COUNTS. Prove the row's statement (the work); the ties are given (YtdfedhmejilnhaaGreatDoorTie.lean); close each card by the builder's one call (the guide's Derived/Test/ToyasCard.lean, 'card_holds'). Laid BY PROGRAM, IN A SANDBOX (cutbox-door.mjs). By AI agents, Wed Nov 11 2026. No macro, syntax, notation, axiom, sorry.
-/
import Derived.Test.YtdfedhmejilnhaaGreatDoorRows
import GoSem.ClaimSeven
namespace Go.Proofs.YtdfedhmejilnhaaGreatDoor
namespace Rows

/-- THE TIED CARD OF 'laws.FnUint64Val'. -/
def fnUint64ValCard : Claim7 := { stood := { row := fnUint64ValRow, standIns := [], harness := (true, "3451c2790aeb5ba6cafd448b95fd46f21a0290bb2761f66d6ce5c1eb6815b75a"), looks := true }, kinds := [], alts := [], laidByText := true, laidKinds := [.data, .data, .data, .data], laidTests := true, laidLooks := .later }
def FnUint64ValCardSaid : Prop := Claim7.holds Tryz.pinned (.plain (OpenSpec.ofChange fnUint64ValSpec)) fnUint64ValCard

/-- THE TIED CARD OF 'laws.FnSign'. -/
def fnSignCard : Claim7 := { stood := { row := fnSignRow, standIns := [], harness := (true, "3451c2790aeb5ba6cafd448b95fd46f21a0290bb2761f66d6ce5c1eb6815b75a"), looks := true }, kinds := [], alts := [], laidByText := true, laidKinds := [.data, .data, .data, .data], laidTests := true, laidLooks := .later }
def FnSignCardSaid : Prop := Claim7.holds Tryz.pinned (.plain (OpenSpec.ofChange fnSignSpec)) fnSignCard

/-- THE TIED CARD OF 'laws.FnBytes'. -/
def fnBytesCard : Claim7 := { stood := { row := fnBytesRow, standIns := [], harness := (true, "3451c2790aeb5ba6cafd448b95fd46f21a0290bb2761f66d6ce5c1eb6815b75a"), looks := true }, kinds := [], alts := [], laidByText := true, laidKinds := [.data, .data, .data, .data], laidTests := true, laidLooks := .later }
def FnBytesCardSaid : Prop := Claim7.holds Tryz.pinned (.plain (OpenSpec.ofChange fnBytesSpec)) fnBytesCard

/-- THE SECOND FORM's CARD OF 'laws.FnUint64Val'. -/
def fnUint64ValUptoCard : Claim7 := { stood := { row := fnUint64ValUptoRow, standIns := [], harness := (true, "3451c2790aeb5ba6cafd448b95fd46f21a0290bb2761f66d6ce5c1eb6815b75a"), looks := true }, kinds := [], alts := [], laidByText := true, laidKinds := [.data, .data, .data, .data], laidTests := true, laidLooks := .later }
def FnUint64ValUptoCardSaid : Prop := Claim7.holds Tryz.pinned (.plain (OpenSpec.upto fnUint64ValSpec)) fnUint64ValUptoCard

/-- THE SECOND FORM's CARD OF 'laws.FnSign'. -/
def fnSignUptoCard : Claim7 := { stood := { row := fnSignUptoRow, standIns := [], harness := (true, "3451c2790aeb5ba6cafd448b95fd46f21a0290bb2761f66d6ce5c1eb6815b75a"), looks := true }, kinds := [], alts := [], laidByText := true, laidKinds := [.data, .data, .data, .data], laidTests := true, laidLooks := .later }
def FnSignUptoCardSaid : Prop := Claim7.holds Tryz.pinned (.plain (OpenSpec.upto fnSignSpec)) fnSignUptoCard

/-- THE SECOND FORM's CARD OF 'laws.FnBytes'. -/
def fnBytesUptoCard : Claim7 := { stood := { row := fnBytesUptoRow, standIns := [], harness := (true, "3451c2790aeb5ba6cafd448b95fd46f21a0290bb2761f66d6ce5c1eb6815b75a"), looks := true }, kinds := [], alts := [], laidByText := true, laidKinds := [.data, .data, .data, .data], laidTests := true, laidLooks := .later }
def FnBytesUptoCardSaid : Prop := Claim7.holds Tryz.pinned (.plain (OpenSpec.upto fnBytesSpec)) fnBytesUptoCard
end Rows
end Go.Proofs.YtdfedhmejilnhaaGreatDoor
