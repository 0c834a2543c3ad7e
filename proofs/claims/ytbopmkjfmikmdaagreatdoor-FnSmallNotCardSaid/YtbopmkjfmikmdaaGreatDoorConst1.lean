/- The package's values of 64 bits: it proves what MakeInt64, and Sign of it, answer. No conditions but that the number fits 64 bits. -/
import Derived.Test.YtbopmkjfmikmdaaGreatDoorMem
import Derived.Test.YtbopmkjfmikmdaaGreatDoorAssert
import Derived.Outline
namespace Go.Proofs.YtbopmkjfmikmdaaGreatDoor
open Go.RowKit

/-- The value of an int64. -/
def iv (a : Int) : Value := .iface 45 (.int .i64 a)

/-- constant.MakeInt64. -/
theorem makeInt64_any (a : Int) (w : World) : Calls Tryz.prog 15 #[.int .i64 a] w fun e w' => e = .returned (iv a) ∧ w = w' := by
  go_enter Tryz.func15, Tryz.ntmps15
  go_wp2
  go_ret
  exact ⟨rfl, rfl⟩

end Go.Proofs.YtbopmkjfmikmdaaGreatDoor
