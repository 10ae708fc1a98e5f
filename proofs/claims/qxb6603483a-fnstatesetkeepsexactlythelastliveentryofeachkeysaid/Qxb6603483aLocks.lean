/-
  The numbers under which this dump holds sync.Mutex's functions and types.
-/
import Derived.Test.Qxb6603483aBase
import Derived.Conc.RwLib
import Derived.Conc.MuLone
import Derived.KernelRfl
namespace Go.Proofs.Qxb6603483a
abbrev muLink : Go.Conc.Locks.MuLink := { lock := 59, unlock := 60, ilock := 64, iunlock := 65, lockSlow := 70, unlockSlow := 73, disable := 66, enable := 68, acquire := 69, relMerge := 71, cas32 := 67, add32 := 72, tMutex := 122, tIMutex := 120, tPMutex := 142, tPIMutex := 143, tPI32 := 145, tUP := 147, tNoCopy := 117, tU32 := 118 }
theorem muLib : Go.Conc.Locks.MuLib Try.prog muLink :=
  ⟨Try.func59, Try.func60, Try.func64, Try.func65, Try.func66, Try.func68, Try.func69, Try.func71, Try.func67, Try.func72, Try.underlying120, Try.runUnderlying120, Try.sizeOf120, Try.isAgg120, Try.zeroValue120, Try.underlying122, Try.runUnderlying122, Try.sizeOf122, Try.isAgg122, Try.zeroValue122, Try.underlying142, Try.runUnderlying142, Try.sizeOf142, Try.isAgg142, Try.zeroValue142, Try.underlying143, Try.runUnderlying143, Try.sizeOf143, Try.isAgg143, Try.zeroValue143, Try.underlying145, Try.runUnderlying145, Try.sizeOf145, Try.isAgg145, Try.zeroValue145, Try.underlying147, Try.runUnderlying147, Try.sizeOf147, Try.isAgg147, Try.zeroValue147, Try.underlying117, Try.runUnderlying117, Try.sizeOf117, Try.isAgg117, Try.zeroValue117, Try.underlying21, Try.runUnderlying21, Try.sizeOf21, Try.isAgg21, Try.zeroValue21, (by kernel_rfl)⟩
end Go.Proofs.Qxb6603483a
