/-
  The numbers under which this dump holds package sync's Mutex (functions, types), and that it holds them; the kernel checks each.
-/
import Derived.Test.YbulkecjuRows
import Derived.Conc.RwLib
import Derived.Conc.MuData
import Derived.KernelRfl
namespace Go.Proofs
abbrev Yba.muLink : Go.Conc.Locks.MuLink := { lock := 13, unlock := 8, ilock := 21, iunlock := 18, lockSlow := 36, unlockSlow := 34, disable := 28, enable := 29, acquire := 31, relMerge := 32, cas32 := 30, add32 := 33, tMutex := 35, tIMutex := 33, tPMutex := 49, tPIMutex := 73, tPI32 := 75, tUP := 38, tNoCopy := 30, tU32 := 31 }
theorem Yba.muLib : Go.Conc.Locks.MuLib Yba.prog Yba.muLink :=
  ⟨Yba.func13, Yba.func8, Yba.func21, Yba.func18, Yba.func28, Yba.func29, Yba.func31, Yba.func32, Yba.func30, Yba.func33, Yba.underlying33, Yba.runUnderlying33, Yba.sizeOf33, Yba.isAgg33, Yba.zeroValue33, Yba.underlying35, Yba.runUnderlying35, Yba.sizeOf35, Yba.isAgg35, Yba.zeroValue35, Yba.underlying49, Yba.runUnderlying49, Yba.sizeOf49, Yba.isAgg49, Yba.zeroValue49, Yba.underlying73, Yba.runUnderlying73, Yba.sizeOf73, Yba.isAgg73, Yba.zeroValue73, Yba.underlying75, Yba.runUnderlying75, Yba.sizeOf75, Yba.isAgg75, Yba.zeroValue75, Yba.underlying38, Yba.runUnderlying38, Yba.sizeOf38, Yba.isAgg38, Yba.zeroValue38, Yba.underlying30, Yba.runUnderlying30, Yba.sizeOf30, Yba.isAgg30, Yba.zeroValue30, Yba.underlying21, Yba.runUnderlying21, Yba.sizeOf21, Yba.isAgg21, Yba.zeroValue21, (by kernel_rfl)⟩
end Go.Proofs
