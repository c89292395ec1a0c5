/-
  The numbers under which this dump holds sync.Mutex's functions and types (turned from Derived/Test/StatsLocks.lean to this program; each fact is checked by the kernel).
-/
import Derived.Test.YbulkazpuProg
import Derived.Conc.MuLone
import Derived.KernelRfl
namespace Go.Proofs
abbrev Yba.muLink : Go.Conc.Locks.MuLink := { lock := 12, unlock := 11, ilock := 15, iunlock := 14, lockSlow := 23, unlockSlow := 22, disable := 16, enable := 17, acquire := 19, relMerge := 20, cas32 := 18, add32 := 21, tMutex := 62, tIMutex := 60, tPMutex := 72, tPIMutex := 73, tPI32 := 75, tUP := 77, tNoCopy := 57, tU32 := 58 }
theorem Yba.muLib : Go.Conc.Locks.MuLib Yba.prog Yba.muLink :=
  ⟨Yba.func12, Yba.func11, Yba.func15, Yba.func14, Yba.func16, Yba.func17, Yba.func19, Yba.func20, Yba.func18, Yba.func21, Yba.underlying60, Yba.runUnderlying60, Yba.sizeOf60, Yba.isAgg60, Yba.zeroValue60, Yba.underlying62, Yba.runUnderlying62, Yba.sizeOf62, Yba.isAgg62, Yba.zeroValue62, Yba.underlying72, Yba.runUnderlying72, Yba.sizeOf72, Yba.isAgg72, Yba.zeroValue72, Yba.underlying73, Yba.runUnderlying73, Yba.sizeOf73, Yba.isAgg73, Yba.zeroValue73, Yba.underlying75, Yba.runUnderlying75, Yba.sizeOf75, Yba.isAgg75, Yba.zeroValue75, Yba.underlying77, Yba.runUnderlying77, Yba.sizeOf77, Yba.isAgg77, Yba.zeroValue77, Yba.underlying57, Yba.runUnderlying57, Yba.sizeOf57, Yba.isAgg57, Yba.zeroValue57, Yba.underlying21, Yba.runUnderlying21, Yba.sizeOf21, Yba.isAgg21, Yba.zeroValue21, (by kernel_rfl)⟩
end Go.Proofs
