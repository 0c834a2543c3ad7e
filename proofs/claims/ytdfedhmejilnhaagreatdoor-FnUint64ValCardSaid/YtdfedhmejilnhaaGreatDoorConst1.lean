/- The package's values of 64 bits: it proves what MakeInt64, and Sign of it, answer. No conditions but that the number fits 64 bits. -/
import Derived.Test.YtdfedhmejilnhaaGreatDoorMem
import Derived.Test.YtdfedhmejilnhaaGreatDoorAssert
import Derived.Outline
namespace Go.Proofs.YtdfedhmejilnhaaGreatDoor
open Go.RowKit

/-- The value of an int64. -/
def iv (a : Int) : Value := .iface 59 (.int .i64 a)


/-- The sign of an integer. -/
def sgn (a : Int) : Int := if a < 0 then -1 else if 0 < a then 1 else 0

set_option maxRecDepth 100000 in
set_option maxHeartbeats 400000 in
/-- constant.Sign of an int64. -/
theorem sign_i64 (a : Int) (w : World) : Calls Tryz.prog 22 #[iv a] w fun e w' => e = .returned (.int .i64 (sgn a)) ∧ w = w' := by
  unfold iv
  by_cases h1 : a < 0
  · have e : sgn a = -1 := by unfold sgn; rw [if_pos h1]
    rw [e]; clear e
    go_enter Tryz.func22, Tryz.ntmps22
    go_wp2
    go_ret
    exact ⟨rfl, rfl⟩
  · by_cases h2 : 0 < a
    · have e : sgn a = 1 := by unfold sgn; rw [if_neg h1, if_pos h2]
      rw [e]; clear e
      go_enter Tryz.func22, Tryz.ntmps22
      go_wp2
      go_ret
      exact ⟨rfl, rfl⟩
    · have e : sgn a = 0 := by unfold sgn; rw [if_neg h1, if_neg h2]
      rw [e]; clear e
      go_enter Tryz.func22, Tryz.ntmps22
      go_wp2
      go_ret
      exact ⟨rfl, rfl⟩
end Go.Proofs.YtdfedhmejilnhaaGreatDoor
