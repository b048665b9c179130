/- The numbers under which this dump holds sync.Mutex's functions and types. -/
import Derived.Test.YtdajemigdciphacRows
import Derived.Conc.RwLib
import Derived.Conc.MuData
import Derived.KernelRfl
namespace Go.Proofs.Ytdajemigdciphac.Locks
abbrev muLink : Go.Conc.Locks.MuLink := { lock := 13, unlock := 14, ilock := 15, iunlock := 16, lockSlow := 21, unlockSlow := 24, disable := 17, enable := 19, acquire := 20, relMerge := 22, cas32 := 18, add32 := 23, tMutex := 114, tIMutex := 112, tPMutex := 134, tPIMutex := 135, tPI32 := 137, tUP := 139, tNoCopy := 110, tU32 := 28 }
theorem muLib : Go.Conc.Locks.MuLib Try.prog muLink :=
  ⟨Try.func13, Try.func14, Try.func15, Try.func16, Try.func17, Try.func19, Try.func20, Try.func22, Try.func18, Try.func23, Try.underlying112, Try.runUnderlying112, Try.sizeOf112, Try.isAgg112, Try.zeroValue112, Try.underlying114, Try.runUnderlying114, Try.sizeOf114, Try.isAgg114, Try.zeroValue114, Try.underlying134, Try.runUnderlying134, Try.sizeOf134, Try.isAgg134, Try.zeroValue134, Try.underlying135, Try.runUnderlying135, Try.sizeOf135, Try.isAgg135, Try.zeroValue135, Try.underlying137, Try.runUnderlying137, Try.sizeOf137, Try.isAgg137, Try.zeroValue137, Try.underlying139, Try.runUnderlying139, Try.sizeOf139, Try.isAgg139, Try.zeroValue139, Try.underlying110, Try.runUnderlying110, Try.sizeOf110, Try.isAgg110, Try.zeroValue110, Try.underlying21, Try.runUnderlying21, Try.sizeOf21, Try.isAgg21, Try.zeroValue21, (by kernel_rfl)⟩
end Go.Proofs.Ytdajemigdciphac.Locks
