import Derived.Test.YbulkebneRows
import Derived.Conc.RwLib
import Derived.Conc.MuLone
import Derived.KernelRfl
/-! Where this dump holds sync.Mutex's functions and types (checked by the kernel). -/
namespace Go.Proofs.Ybulkebne
abbrev muLink : Go.Conc.Locks.MuLink := { lock := 7, unlock := 10, ilock := 13, iunlock := 16, lockSlow := 21, unlockSlow := 25, disable := 17, enable := 19, acquire := 20, relMerge := 23, cas32 := 18, add32 := 24, tMutex := 50, tIMutex := 48, tPMutex := 87, tPIMutex := 89, tPI32 := 91, tUP := 33, tNoCopy := 46, tU32 := 40 }
theorem muLib : Go.Conc.Locks.MuLib Yba.prog muLink :=
  ⟨Yba.func7, Yba.func10, Yba.func13, Yba.func16, Yba.func17, Yba.func19, Yba.func20, Yba.func23, Yba.func18, Yba.func24, Yba.underlying48, Yba.runUnderlying48, Yba.sizeOf48, Yba.isAgg48, Yba.zeroValue48, Yba.underlying50, Yba.runUnderlying50, Yba.sizeOf50, Yba.isAgg50, Yba.zeroValue50, Yba.underlying87, Yba.runUnderlying87, Yba.sizeOf87, Yba.isAgg87, Yba.zeroValue87, Yba.underlying89, Yba.runUnderlying89, Yba.sizeOf89, Yba.isAgg89, Yba.zeroValue89, Yba.underlying91, Yba.runUnderlying91, Yba.sizeOf91, Yba.isAgg91, Yba.zeroValue91, Yba.underlying33, Yba.runUnderlying33, Yba.sizeOf33, Yba.isAgg33, Yba.zeroValue33, Yba.underlying46, Yba.runUnderlying46, Yba.sizeOf46, Yba.isAgg46, Yba.zeroValue46, Yba.underlying21, Yba.runUnderlying21, Yba.sizeOf21, Yba.isAgg21, Yba.zeroValue21, (by kernel_rfl)⟩
end Go.Proofs.Ybulkebne
