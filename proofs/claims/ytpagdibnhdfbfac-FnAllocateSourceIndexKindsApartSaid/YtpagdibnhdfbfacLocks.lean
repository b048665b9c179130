/- The numbers under which this dump holds sync.Mutex's functions and types. -/
import Derived.Test.YtpagdibnhdfbfacRows
import Derived.Conc.RwLib
import Derived.Conc.MuData
import Derived.KernelRfl
namespace Go.Proofs.Ytpagdibnhdfbfac.Locks
abbrev muLink : Go.Conc.Locks.MuLink := { lock := 12, unlock := 13, ilock := 14, iunlock := 15, lockSlow := 20, unlockSlow := 23, disable := 16, enable := 18, acquire := 19, relMerge := 21, cas32 := 17, add32 := 22, tMutex := 117, tIMutex := 115, tPMutex := 138, tPIMutex := 139, tPI32 := 141, tUP := 143, tNoCopy := 113, tU32 := 25 }
theorem muLib : Go.Conc.Locks.MuLib Try.prog muLink :=
  ⟨Try.func12, Try.func13, Try.func14, Try.func15, Try.func16, Try.func18, Try.func19, Try.func21, Try.func17, Try.func22, Try.underlying115, Try.runUnderlying115, Try.sizeOf115, Try.isAgg115, Try.zeroValue115, Try.underlying117, Try.runUnderlying117, Try.sizeOf117, Try.isAgg117, Try.zeroValue117, Try.underlying138, Try.runUnderlying138, Try.sizeOf138, Try.isAgg138, Try.zeroValue138, Try.underlying139, Try.runUnderlying139, Try.sizeOf139, Try.isAgg139, Try.zeroValue139, Try.underlying141, Try.runUnderlying141, Try.sizeOf141, Try.isAgg141, Try.zeroValue141, Try.underlying143, Try.runUnderlying143, Try.sizeOf143, Try.isAgg143, Try.zeroValue143, Try.underlying113, Try.runUnderlying113, Try.sizeOf113, Try.isAgg113, Try.zeroValue113, Try.underlying21, Try.runUnderlying21, Try.sizeOf21, Try.isAgg21, Try.zeroValue21, (by kernel_rfl)⟩
end Go.Proofs.Ytpagdibnhdfbfac.Locks
