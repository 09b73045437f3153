/-
  The numbers under which this dump holds the functions and types of sync.Mutex, and that it holds them (Derived/Conc/MuLib.lean).
-/
import Derived.Test.Qxb6612260aRows
import Derived.Conc.RwLib
import Derived.Conc.MuData
import Derived.KernelRfl
namespace Go.Proofs.Qxb6612260a
abbrev muLink : Go.Conc.Locks.MuLink := { lock := 22, unlock := 23, ilock := 24, iunlock := 25, lockSlow := 30, unlockSlow := 33, disable := 26, enable := 28, acquire := 29, relMerge := 31, cas32 := 27, add32 := 32, tMutex := 48, tIMutex := 46, tPMutex := 57, tPIMutex := 58, tPI32 := 60, tUP := 62, tNoCopy := 43, tU32 := 44 }
theorem muLib : Go.Conc.Locks.MuLib Try.prog muLink :=
  ⟨Try.func22, Try.func23, Try.func24, Try.func25, Try.func26, Try.func28, Try.func29, Try.func31, Try.func27, Try.func32, Try.underlying46, Try.runUnderlying46, Try.sizeOf46, Try.isAgg46, Try.zeroValue46, Try.underlying48, Try.runUnderlying48, Try.sizeOf48, Try.isAgg48, Try.zeroValue48, Try.underlying57, Try.runUnderlying57, Try.sizeOf57, Try.isAgg57, Try.zeroValue57, Try.underlying58, Try.runUnderlying58, Try.sizeOf58, Try.isAgg58, Try.zeroValue58, Try.underlying60, Try.runUnderlying60, Try.sizeOf60, Try.isAgg60, Try.zeroValue60, Try.underlying62, Try.runUnderlying62, Try.sizeOf62, Try.isAgg62, Try.zeroValue62, Try.underlying43, Try.runUnderlying43, Try.sizeOf43, Try.isAgg43, Try.zeroValue43, Try.underlying21, Try.runUnderlying21, Try.sizeOf21, Try.isAgg21, Try.zeroValue21, (by kernel_rfl)⟩
end Go.Proofs.Qxb6612260a
