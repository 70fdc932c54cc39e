/-
  The numbers under which this dump holds sync.Mutex's functions and types, and that it holds them; the lock and the deferred unlock by the library's contracts.
-/
import Derived.Test.Qxb6614018aRows
import Derived.Conc.MuLone
import Derived.KernelRfl
namespace Go.Proofs.Qxb6614018a
abbrev muLink : Go.Conc.Locks.MuLink := { lock := 12, unlock := 13, ilock := 14, iunlock := 15, lockSlow := 20, unlockSlow := 23, disable := 16, enable := 18, acquire := 19, relMerge := 21, cas32 := 17, add32 := 22, tMutex := 48, tIMutex := 46, tPMutex := 57, tPIMutex := 58, tPI32 := 60, tUP := 62, tNoCopy := 43, tU32 := 44 }
theorem muLib : Go.Conc.Locks.MuLib Try.prog muLink :=
  ⟨Try.func12, Try.func13, Try.func14, Try.func15, Try.func16, Try.func18, Try.func19, Try.func21, Try.func17, Try.func22, Try.underlying46, Try.runUnderlying46, Try.sizeOf46, Try.isAgg46, Try.zeroValue46, Try.underlying48, Try.runUnderlying48, Try.sizeOf48, Try.isAgg48, Try.zeroValue48, Try.underlying57, Try.runUnderlying57, Try.sizeOf57, Try.isAgg57, Try.zeroValue57, Try.underlying58, Try.runUnderlying58, Try.sizeOf58, Try.isAgg58, Try.zeroValue58, Try.underlying60, Try.runUnderlying60, Try.sizeOf60, Try.isAgg60, Try.zeroValue60, Try.underlying62, Try.runUnderlying62, Try.sizeOf62, Try.isAgg62, Try.zeroValue62, Try.underlying43, Try.runUnderlying43, Try.sizeOf43, Try.isAgg43, Try.zeroValue43, Try.underlying21, Try.runUnderlying21, Try.sizeOf21, Try.isAgg21, Try.zeroValue21, (by kernel_rfl)⟩
end Go.Proofs.Qxb6614018a
