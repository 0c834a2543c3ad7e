/-
  DERIVED. GIVEN WITH THE SEED: THE CARDS: each row of YtbopmkjfmikmdaaGreatDoorRows.lean that lists a variable, with what it lists TIED to the program's text (the seventh form; the later family's looks); each row that meets fmt, with fmt's text TOLD by the authors' own Lean function (tested against real Go, not proved from fmt's source: count such statements apart). THE CARD IS WHAT COUNTS. Prove the row's statement (the work); the ties are given (YtbopmkjfmikmdaaGreatDoorTie.lean); close each card by the builder's one call (the guide's Derived/Test/ToyasCard.lean, 'card_holds'). Laid BY PROGRAM, IN A SANDBOX (cutbox-door.mjs). By AI agents, Wed Nov 11 2026. No macro, syntax, notation, axiom, sorry.
-/
import Derived.Test.YtbopmkjfmikmdaaGreatDoorRows
import GoSem.ClaimSeven
namespace Go.Proofs.YtbopmkjfmikmdaaGreatDoor
namespace Rows

/-- THE TIED CARD OF 'laws.FnSmallNot'. -/
def fnSmallNotCard : Claim7 := { stood := { row := fnSmallNotRow, standIns := [], harness := (true, "096ac3400cbc75d1186ea707d9ddc9adce38e0cf1c0a173e7e5a3e2b93047a10"), looks := true }, kinds := [], alts := [], laidByText := true, laidKinds := [.data, .data, .data, .data], laidTests := true, laidLooks := .later }
def FnSmallNotCardSaid : Prop := Claim7.holds Tryz.pinned (.plain (OpenSpec.ofChange fnSmallNotSpec)) fnSmallNotCard

/-- THE TIED CARD OF 'laws.FnSmallCompare'. -/
def fnSmallCompareCard : Claim7 := { stood := { row := fnSmallCompareRow, standIns := [], harness := (true, "096ac3400cbc75d1186ea707d9ddc9adce38e0cf1c0a173e7e5a3e2b93047a10"), looks := true }, kinds := [], alts := [], laidByText := true, laidKinds := [.data, .data, .data, .data], laidTests := true, laidLooks := .later }
def FnSmallCompareCardSaid : Prop := Claim7.holds Tryz.pinned (.plain (OpenSpec.ofChange fnSmallCompareSpec)) fnSmallCompareCard

/-- THE TIED CARD OF 'laws.FnTruthCompare'. -/
def fnTruthCompareCard : Claim7 := { stood := { row := fnTruthCompareRow, standIns := [], harness := (true, "096ac3400cbc75d1186ea707d9ddc9adce38e0cf1c0a173e7e5a3e2b93047a10"), looks := true }, kinds := [], alts := [], laidByText := true, laidKinds := [.data, .data, .data, .data], laidTests := true, laidLooks := .later }
def FnTruthCompareCardSaid : Prop := Claim7.holds Tryz.pinned (.plain (OpenSpec.ofChange fnTruthCompareSpec)) fnTruthCompareCard

/-- THE TIED CARD OF 'laws.FnTextCompare'. -/
def fnTextCompareCard : Claim7 := { stood := { row := fnTextCompareRow, standIns := [], harness := (true, "096ac3400cbc75d1186ea707d9ddc9adce38e0cf1c0a173e7e5a3e2b93047a10"), looks := true }, kinds := [], alts := [], laidByText := true, laidKinds := [.data, .data, .data, .data], laidTests := true, laidLooks := .later }
def FnTextCompareCardSaid : Prop := Claim7.holds Tryz.pinned (.plain (OpenSpec.ofChange fnTextCompareSpec)) fnTextCompareCard

/-- THE SECOND FORM's CARD OF 'laws.FnSmallNot'. -/
def fnSmallNotUptoCard : Claim7 := { stood := { row := fnSmallNotUptoRow, standIns := [], harness := (true, "096ac3400cbc75d1186ea707d9ddc9adce38e0cf1c0a173e7e5a3e2b93047a10"), looks := true }, kinds := [], alts := [], laidByText := true, laidKinds := [.data, .data, .data, .data], laidTests := true, laidLooks := .later }
def FnSmallNotUptoCardSaid : Prop := Claim7.holds Tryz.pinned (.plain (OpenSpec.upto fnSmallNotSpec)) fnSmallNotUptoCard

/-- THE SECOND FORM's CARD OF 'laws.FnSmallCompare'. -/
def fnSmallCompareUptoCard : Claim7 := { stood := { row := fnSmallCompareUptoRow, standIns := [], harness := (true, "096ac3400cbc75d1186ea707d9ddc9adce38e0cf1c0a173e7e5a3e2b93047a10"), looks := true }, kinds := [], alts := [], laidByText := true, laidKinds := [.data, .data, .data, .data], laidTests := true, laidLooks := .later }
def FnSmallCompareUptoCardSaid : Prop := Claim7.holds Tryz.pinned (.plain (OpenSpec.upto fnSmallCompareSpec)) fnSmallCompareUptoCard

/-- THE SECOND FORM's CARD OF 'laws.FnTruthCompare'. -/
def fnTruthCompareUptoCard : Claim7 := { stood := { row := fnTruthCompareUptoRow, standIns := [], harness := (true, "096ac3400cbc75d1186ea707d9ddc9adce38e0cf1c0a173e7e5a3e2b93047a10"), looks := true }, kinds := [], alts := [], laidByText := true, laidKinds := [.data, .data, .data, .data], laidTests := true, laidLooks := .later }
def FnTruthCompareUptoCardSaid : Prop := Claim7.holds Tryz.pinned (.plain (OpenSpec.upto fnTruthCompareSpec)) fnTruthCompareUptoCard

/-- THE SECOND FORM's CARD OF 'laws.FnTextCompare'. -/
def fnTextCompareUptoCard : Claim7 := { stood := { row := fnTextCompareUptoRow, standIns := [], harness := (true, "096ac3400cbc75d1186ea707d9ddc9adce38e0cf1c0a173e7e5a3e2b93047a10"), looks := true }, kinds := [], alts := [], laidByText := true, laidKinds := [.data, .data, .data, .data], laidTests := true, laidLooks := .later }
def FnTextCompareUptoCardSaid : Prop := Claim7.holds Tryz.pinned (.plain (OpenSpec.upto fnTextCompareSpec)) fnTextCompareUptoCard
end Rows
end Go.Proofs.YtbopmkjfmikmdaaGreatDoor
