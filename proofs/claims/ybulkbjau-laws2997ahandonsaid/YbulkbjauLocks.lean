import Derived.Test.YbulkbjauRows
import Derived.Conc.RwLib
import Derived.Conc.MuData
import Derived.Conc.MuLone
import Derived.KernelRfl
/-! The numbers under which this dump holds sync.Mutex's functions and types, and that it holds them. -/
namespace Go.Proofs.Ybulkbjau
abbrev muLink : Go.Conc.Locks.MuLink := { lock := 20, unlock := 11, ilock := 27, iunlock := 23, lockSlow := 44, unlockSlow := 34, disable := 28, enable := 29, acquire := 31, relMerge := 32, cas32 := 30, add32 := 33, tMutex := 33, tIMutex := 31, tPMutex := 88, tPIMutex := 92, tPI32 := 94, tUP := 96, tNoCopy := 28, tU32 := 29 }
theorem muLib : Go.Conc.Locks.MuLib Yba.prog muLink :=
  ⟨Yba.func20, Yba.func11, Yba.func27, Yba.func23, Yba.func28, Yba.func29, Yba.func31, Yba.func32, Yba.func30, Yba.func33, Yba.underlying31, Yba.runUnderlying31, Yba.sizeOf31, Yba.isAgg31, Yba.zeroValue31, Yba.underlying33, Yba.runUnderlying33, Yba.sizeOf33, Yba.isAgg33, Yba.zeroValue33, Yba.underlying88, Yba.runUnderlying88, Yba.sizeOf88, Yba.isAgg88, Yba.zeroValue88, Yba.underlying92, Yba.runUnderlying92, Yba.sizeOf92, Yba.isAgg92, Yba.zeroValue92, Yba.underlying94, Yba.runUnderlying94, Yba.sizeOf94, Yba.isAgg94, Yba.zeroValue94, Yba.underlying96, Yba.runUnderlying96, Yba.sizeOf96, Yba.isAgg96, Yba.zeroValue96, Yba.underlying28, Yba.runUnderlying28, Yba.sizeOf28, Yba.isAgg28, Yba.zeroValue28, Yba.underlying21, Yba.runUnderlying21, Yba.sizeOf21, Yba.isAgg21, Yba.zeroValue21, (by kernel_rfl)⟩
end Go.Proofs.Ybulkbjau
