/-
  The numbers under which this dump holds sync.Mutex's functions and types, and that it holds them (after the make of StatsLocks.lean, at this dump's numbers).
-/
import Derived.Test.Qxb6632369aProg
import Derived.Conc.MuLib
import Derived.KernelRfl
namespace Go.Proofs.Qxb6632369a
abbrev muLink : Go.Conc.Locks.MuLink := { lock := 12, unlock := 13, ilock := 14, iunlock := 15, lockSlow := 20, unlockSlow := 23, disable := 16, enable := 18, acquire := 19, relMerge := 21, cas32 := 17, add32 := 22, tMutex := 40, tIMutex := 38, tPMutex := 43, tPIMutex := 44, tPI32 := 46, tUP := 48, tNoCopy := 35, tU32 := 36 }
theorem muLib : Go.Conc.Locks.MuLib Try.prog muLink :=
  ⟨Try.func12, Try.func13, Try.func14, Try.func15, Try.func16, Try.func18, Try.func19, Try.func21, Try.func17, Try.func22, Try.underlying38, Try.runUnderlying38, Try.sizeOf38, Try.isAgg38, Try.zeroValue38, Try.underlying40, Try.runUnderlying40, Try.sizeOf40, Try.isAgg40, Try.zeroValue40, Try.underlying43, Try.runUnderlying43, Try.sizeOf43, Try.isAgg43, Try.zeroValue43, Try.underlying44, Try.runUnderlying44, Try.sizeOf44, Try.isAgg44, Try.zeroValue44, Try.underlying46, Try.runUnderlying46, Try.sizeOf46, Try.isAgg46, Try.zeroValue46, Try.underlying48, Try.runUnderlying48, Try.sizeOf48, Try.isAgg48, Try.zeroValue48, Try.underlying35, Try.runUnderlying35, Try.sizeOf35, Try.isAgg35, Try.zeroValue35, Try.underlying21, Try.runUnderlying21, Try.sizeOf21, Try.isAgg21, Try.zeroValue21, (by kernel_rfl)⟩
end Go.Proofs.Qxb6632369a
