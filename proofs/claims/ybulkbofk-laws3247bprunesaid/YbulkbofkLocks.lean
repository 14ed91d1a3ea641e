/- The numbers under which this dump holds the functions and types of sync.Mutex, and that it holds them. -/
import Derived.Test.YbulkbofkProg
import Derived.Conc.MuLone
import Derived.KernelRfl
namespace Go.Proofs
abbrev Yba.muLink : Go.Conc.Locks.MuLink := { lock := 27, unlock := 28, ilock := 33, iunlock := 34, lockSlow := 40, unlockSlow := 43, disable := 36, enable := 38, acquire := 39, relMerge := 41, cas32 := 37, add32 := 42, tMutex := 77, tIMutex := 75, tPMutex := 103, tPIMutex := 105, tPI32 := 107, tUP := 109, tNoCopy := 72, tU32 := 73 }
theorem Yba.muLib : Go.Conc.Locks.MuLib Yba.prog Yba.muLink :=
  ⟨Yba.func27, Yba.func28, Yba.func33, Yba.func34, Yba.func36, Yba.func38, Yba.func39, Yba.func41, Yba.func37, Yba.func42, Yba.underlying75, Yba.runUnderlying75, Yba.sizeOf75, Yba.isAgg75, Yba.zeroValue75, Yba.underlying77, Yba.runUnderlying77, Yba.sizeOf77, Yba.isAgg77, Yba.zeroValue77, Yba.underlying103, Yba.runUnderlying103, Yba.sizeOf103, Yba.isAgg103, Yba.zeroValue103, Yba.underlying105, Yba.runUnderlying105, Yba.sizeOf105, Yba.isAgg105, Yba.zeroValue105, Yba.underlying107, Yba.runUnderlying107, Yba.sizeOf107, Yba.isAgg107, Yba.zeroValue107, Yba.underlying109, Yba.runUnderlying109, Yba.sizeOf109, Yba.isAgg109, Yba.zeroValue109, Yba.underlying72, Yba.runUnderlying72, Yba.sizeOf72, Yba.isAgg72, Yba.zeroValue72, Yba.underlying21, Yba.runUnderlying21, Yba.sizeOf21, Yba.isAgg21, Yba.zeroValue21, (by kernel_rfl)⟩
end Go.Proofs
