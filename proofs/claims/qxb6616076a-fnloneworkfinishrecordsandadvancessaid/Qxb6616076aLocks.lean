/-
  SEAT b6616076a. The numbers under which this dump holds sync.Mutex's functions and types, and that it holds them. After the worked StatsLocks text; the kernel checks every number.
-/
import Derived.Test.Qxb6616076aProg
import Derived.Conc.RwLib
import Derived.Conc.MuData
import Derived.KernelRfl
namespace Go.Proofs.Qxb6616076a
open Go Go.Proofs
abbrev muLink : Go.Conc.Locks.MuLink := { lock := 28, unlock := 29, ilock := 30, iunlock := 31, lockSlow := 36, unlockSlow := 39, disable := 32, enable := 34, acquire := 35, relMerge := 37, cas32 := 33, add32 := 38, tMutex := 53, tIMutex := 51, tPMutex := 59, tPIMutex := 60, tPI32 := 62, tUP := 64, tNoCopy := 48, tU32 := 49 }
theorem muLib : Go.Conc.Locks.MuLib Try.prog muLink :=
  ⟨Try.func28, Try.func29, Try.func30, Try.func31, Try.func32, Try.func34, Try.func35, Try.func37, Try.func33, Try.func38, Try.underlying51, Try.runUnderlying51, Try.sizeOf51, Try.isAgg51, Try.zeroValue51, Try.underlying53, Try.runUnderlying53, Try.sizeOf53, Try.isAgg53, Try.zeroValue53, Try.underlying59, Try.runUnderlying59, Try.sizeOf59, Try.isAgg59, Try.zeroValue59, Try.underlying60, Try.runUnderlying60, Try.sizeOf60, Try.isAgg60, Try.zeroValue60, Try.underlying62, Try.runUnderlying62, Try.sizeOf62, Try.isAgg62, Try.zeroValue62, Try.underlying64, Try.runUnderlying64, Try.sizeOf64, Try.isAgg64, Try.zeroValue64, Try.underlying48, Try.runUnderlying48, Try.sizeOf48, Try.isAgg48, Try.zeroValue48, Try.underlying21, Try.runUnderlying21, Try.sizeOf21, Try.isAgg21, Try.zeroValue21, (by kernel_rfl)⟩
#print axioms muLib
end Go.Proofs.Qxb6616076a
