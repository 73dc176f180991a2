/-
  The numbers under which this dump holds sync.Mutex's functions and types (the guide's 6u, StatsLocks turned to this program).
-/
import Derived.Test.YbulkcjqeProg
import Derived.Conc.MuData
import Derived.KernelRfl
namespace Go.Proofs.Ybulkcjqe
abbrev muLink : Go.Conc.Locks.MuLink := { lock := 9, unlock := 10, ilock := 12, iunlock := 13, lockSlow := 18, unlockSlow := 21, disable := 14, enable := 16, acquire := 17, relMerge := 19, cas32 := 15, add32 := 20, tMutex := 36, tIMutex := 34, tPMutex := 48, tPIMutex := 49, tPI32 := 46, tUP := 52, tNoCopy := 32, tU32 := 23 }
theorem muLib : Go.Conc.Locks.MuLib Yba.prog muLink :=
  ⟨Yba.func9, Yba.func10, Yba.func12, Yba.func13, Yba.func14, Yba.func16, Yba.func17, Yba.func19, Yba.func15, Yba.func20, Yba.underlying34, Yba.runUnderlying34, Yba.sizeOf34, Yba.isAgg34, Yba.zeroValue34, Yba.underlying36, Yba.runUnderlying36, Yba.sizeOf36, Yba.isAgg36, Yba.zeroValue36, Yba.underlying48, Yba.runUnderlying48, Yba.sizeOf48, Yba.isAgg48, Yba.zeroValue48, Yba.underlying49, Yba.runUnderlying49, Yba.sizeOf49, Yba.isAgg49, Yba.zeroValue49, Yba.underlying46, Yba.runUnderlying46, Yba.sizeOf46, Yba.isAgg46, Yba.zeroValue46, Yba.underlying52, Yba.runUnderlying52, Yba.sizeOf52, Yba.isAgg52, Yba.zeroValue52, Yba.underlying32, Yba.runUnderlying32, Yba.sizeOf32, Yba.isAgg32, Yba.zeroValue32, Yba.underlying21, Yba.runUnderlying21, Yba.sizeOf21, Yba.isAgg21, Yba.zeroValue21, (by kernel_rfl)⟩
end Go.Proofs.Ybulkcjqe
