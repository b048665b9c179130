/- The numbers under which this dump holds sync.Mutex's functions and types. -/
import Derived.Test.YtfljkbfacncdgaaDoorRows
import Derived.Conc.RwLib
import Derived.Conc.MuData
import Derived.KernelRfl
namespace Go.Proofs.YtfljkbfacncdgaaDoor.Locks
abbrev muLink : Go.Conc.Locks.MuLink := { lock := 21, unlock := 22, ilock := 25, iunlock := 26, lockSlow := 32, unlockSlow := 35, disable := 28, enable := 30, acquire := 31, relMerge := 33, cas32 := 29, add32 := 34, tMutex := 161, tIMutex := 159, tPMutex := 164, tPIMutex := 166, tPI32 := 168, tUP := 170, tNoCopy := 157, tU32 := 27 }
theorem muLib : Go.Conc.Locks.MuLib Tryd.prog muLink :=
  ⟨Tryd.func21, Tryd.func22, Tryd.func25, Tryd.func26, Tryd.func28, Tryd.func30, Tryd.func31, Tryd.func33, Tryd.func29, Tryd.func34, Tryd.underlying159, Tryd.runUnderlying159, Tryd.sizeOf159, Tryd.isAgg159, Tryd.zeroValue159, Tryd.underlying161, Tryd.runUnderlying161, Tryd.sizeOf161, Tryd.isAgg161, Tryd.zeroValue161, Tryd.underlying164, Tryd.runUnderlying164, Tryd.sizeOf164, Tryd.isAgg164, Tryd.zeroValue164, Tryd.underlying166, Tryd.runUnderlying166, Tryd.sizeOf166, Tryd.isAgg166, Tryd.zeroValue166, Tryd.underlying168, Tryd.runUnderlying168, Tryd.sizeOf168, Tryd.isAgg168, Tryd.zeroValue168, Tryd.underlying170, Tryd.runUnderlying170, Tryd.sizeOf170, Tryd.isAgg170, Tryd.zeroValue170, Tryd.underlying157, Tryd.runUnderlying157, Tryd.sizeOf157, Tryd.isAgg157, Tryd.zeroValue157, Tryd.underlying21, Tryd.runUnderlying21, Tryd.sizeOf21, Tryd.isAgg21, Tryd.zeroValue21, (by kernel_rfl)⟩
end Go.Proofs.YtfljkbfacncdgaaDoor.Locks
