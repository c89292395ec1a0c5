/-
  The numbers under which this dump holds sync.Mutex's functions and types (turned from Derived/Test/StatsLocks.lean to this program; each fact is checked by the kernel).
-/
import Derived.Test.YbulkazwuProg
import Derived.Conc.MuLone
import Derived.KernelRfl
namespace Go.Proofs
abbrev Yba.muLink : Go.Conc.Locks.MuLink := { lock := 19, unlock := 20, ilock := 21, iunlock := 22, lockSlow := 27, unlockSlow := 30, disable := 23, enable := 25, acquire := 26, relMerge := 28, cas32 := 24, add32 := 29, tMutex := 38, tIMutex := 36, tPMutex := 104, tPIMutex := 105, tPI32 := 107, tUP := 109, tNoCopy := 33, tU32 := 34 }
theorem Yba.muLib : Go.Conc.Locks.MuLib Yba.prog Yba.muLink :=
  ⟨Yba.func19, Yba.func20, Yba.func21, Yba.func22, Yba.func23, Yba.func25, Yba.func26, Yba.func28, Yba.func24, Yba.func29, Yba.underlying36, Yba.runUnderlying36, Yba.sizeOf36, Yba.isAgg36, Yba.zeroValue36, Yba.underlying38, Yba.runUnderlying38, Yba.sizeOf38, Yba.isAgg38, Yba.zeroValue38, Yba.underlying104, Yba.runUnderlying104, Yba.sizeOf104, Yba.isAgg104, Yba.zeroValue104, Yba.underlying105, Yba.runUnderlying105, Yba.sizeOf105, Yba.isAgg105, Yba.zeroValue105, Yba.underlying107, Yba.runUnderlying107, Yba.sizeOf107, Yba.isAgg107, Yba.zeroValue107, Yba.underlying109, Yba.runUnderlying109, Yba.sizeOf109, Yba.isAgg109, Yba.zeroValue109, Yba.underlying33, Yba.runUnderlying33, Yba.sizeOf33, Yba.isAgg33, Yba.zeroValue33, Yba.underlying21, Yba.runUnderlying21, Yba.sizeOf21, Yba.isAgg21, Yba.zeroValue21, (by kernel_rfl)⟩
end Go.Proofs
