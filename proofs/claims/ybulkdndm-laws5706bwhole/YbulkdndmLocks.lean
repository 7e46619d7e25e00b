/- The numbers under which this dump holds sync.Mutex's functions and types, and that it holds them. -/
import Derived.Test.YbulkdndmRows
import Derived.Conc.RwLib
import Derived.Conc.MuData
import Derived.KernelRfl
namespace Go.Proofs
abbrev Yba.muLink : Go.Conc.Locks.MuLink := { lock := 19, unlock := 20, ilock := 26, iunlock := 27, lockSlow := 33, unlockSlow := 36, disable := 29, enable := 31, acquire := 32, relMerge := 34, cas32 := 30, add32 := 35, tMutex := 40, tIMutex := 38, tPMutex := 109, tPIMutex := 111, tPI32 := 113, tUP := 57, tNoCopy := 35, tU32 := 36 }
theorem Yba.muLib : Go.Conc.Locks.MuLib Yba.prog Yba.muLink :=
  ⟨Yba.func19, Yba.func20, Yba.func26, Yba.func27, Yba.func29, Yba.func31, Yba.func32, Yba.func34, Yba.func30, Yba.func35, Yba.underlying38, Yba.runUnderlying38, Yba.sizeOf38, Yba.isAgg38, Yba.zeroValue38, Yba.underlying40, Yba.runUnderlying40, Yba.sizeOf40, Yba.isAgg40, Yba.zeroValue40, Yba.underlying109, Yba.runUnderlying109, Yba.sizeOf109, Yba.isAgg109, Yba.zeroValue109, Yba.underlying111, Yba.runUnderlying111, Yba.sizeOf111, Yba.isAgg111, Yba.zeroValue111, Yba.underlying113, Yba.runUnderlying113, Yba.sizeOf113, Yba.isAgg113, Yba.zeroValue113, Yba.underlying57, Yba.runUnderlying57, Yba.sizeOf57, Yba.isAgg57, Yba.zeroValue57, Yba.underlying35, Yba.runUnderlying35, Yba.sizeOf35, Yba.isAgg35, Yba.zeroValue35, Yba.underlying21, Yba.runUnderlying21, Yba.sizeOf21, Yba.isAgg21, Yba.zeroValue21, (by kernel_rfl)⟩
end Go.Proofs
