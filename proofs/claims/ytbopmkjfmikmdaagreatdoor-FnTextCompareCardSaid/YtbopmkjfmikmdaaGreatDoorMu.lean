/- The numbers under which this program holds sync.Mutex, and that it holds it. Written after the kit's worked text StatsLocks. -/
import Derived.Test.YtbopmkjfmikmdaaGreatDoorProg
import Derived.Conc.MuLone
import Derived.KernelRfl
namespace Go.Proofs.YtbopmkjfmikmdaaGreatDoor

abbrev Tryz.muLink : Go.Conc.Locks.MuLink := { lock := 69, unlock := 70, ilock := 100, iunlock := 101, lockSlow := 132, unlockSlow := 135, disable := 128, enable := 130, acquire := 131, relMerge := 133, cas32 := 129, add32 := 134, tMutex := 87, tIMutex := 85, tPMutex := 146, tPIMutex := 174, tPI32 := 176, tUP := 178, tNoCopy := 82, tU32 := 83 }
theorem Tryz.muLib : Go.Conc.Locks.MuLib Tryz.prog Tryz.muLink :=
  ⟨(Tryz.func69.trans (by kernel_rfl)), (Tryz.func70.trans (by kernel_rfl)), (Tryz.func100.trans (by kernel_rfl)), (Tryz.func101.trans (by kernel_rfl)), (Tryz.func128.trans (by kernel_rfl)), (Tryz.func130.trans (by kernel_rfl)), (Tryz.func131.trans (by kernel_rfl)), (Tryz.func133.trans (by kernel_rfl)), (Tryz.func129.trans (by kernel_rfl)), (Tryz.func134.trans (by kernel_rfl)),
   Tryz.underlying85, Tryz.runUnderlying85, Tryz.sizeOf85, Tryz.isAgg85, Tryz.zeroValue85,
   Tryz.underlying87, Tryz.runUnderlying87, Tryz.sizeOf87, Tryz.isAgg87, Tryz.zeroValue87,
   Tryz.underlying146, Tryz.runUnderlying146, Tryz.sizeOf146, Tryz.isAgg146, Tryz.zeroValue146,
   Tryz.underlying174, Tryz.runUnderlying174, Tryz.sizeOf174, Tryz.isAgg174, Tryz.zeroValue174,
   Tryz.underlying176, Tryz.runUnderlying176, Tryz.sizeOf176, Tryz.isAgg176, Tryz.zeroValue176,
   Tryz.underlying178, Tryz.runUnderlying178, Tryz.sizeOf178, Tryz.isAgg178, Tryz.zeroValue178,
   Tryz.underlying82, Tryz.runUnderlying82, Tryz.sizeOf82, Tryz.isAgg82, Tryz.zeroValue82,
   Tryz.underlying21, Tryz.runUnderlying21, Tryz.sizeOf21, Tryz.isAgg21, Tryz.zeroValue21, (by kernel_rfl)⟩
end Go.Proofs.YtbopmkjfmikmdaaGreatDoor
