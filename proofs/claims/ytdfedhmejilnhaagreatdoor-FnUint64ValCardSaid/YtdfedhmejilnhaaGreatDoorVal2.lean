/- The value of the thin package that a law is given: it proves what rest answers. No conditions. -/
import Derived.Test.YtdfedhmejilnhaaGreatDoorVal1
namespace Go.Proofs.YtdfedhmejilnhaaGreatDoor
open Go.RowKit

/-- Whether what a number does not use is nothing. -/
def restB (t : Bool) (s : ByteArray) (neg3 : Bool) (n3 n4 : Nat) : Bool := !t && decide (s.toList = []) && !neg3 && decide (n3 = 0) && ((n4 : Int) == 0)

set_option maxRecDepth 100000 in
set_option maxHeartbeats 800000 in
/-- spec.rest. -/
theorem rest_any (k : Int) (t : Bool) (s : ByteArray) (neg : Bool) (A : Option Addr) (n c : Nat) (A2 : Option Addr) (n2 c2 : Nat) (neg3 : Bool) (A3 : Option Addr) (n3 c3 : Nat) (A4 : Option Addr) (n4 c4 : Nat) (w : World) :
    Calls Tryz.prog 27 #[.agg #[.int .i64 k, .bool t, .string s, .bool neg, .slice A n c, .slice A2 n2 c2, .bool neg3, .slice A3 n3 c3, .slice A4 n4 c4]] w (TheB (restB t s neg3 n3 n4) w) := by
  go_enter Tryz.func27, Tryz.ntmps27
  go_wp2
  all_goals
    go_ret
    exact ⟨by simp_all [restB], (Below.refl _ _).alloc (Nat.le_refl _) _⟩
end Go.Proofs.YtdfedhmejilnhaaGreatDoor
