/-
  The numbers under which this dump holds sync.Mutex's functions and types, typed by hand after the worked LockinLocks.lean; the kernel checks every one.
-/
import Derived.Test.YbulkbkpeProg
import Derived.Conc.RwLib
import Derived.Conc.MuData
import Derived.KernelRfl
namespace Go.Proofs.Ybulkbkpe
abbrev muLink : Go.Conc.Locks.MuLink := { lock := 12, unlock := 13, ilock := 14, iunlock := 15, lockSlow := 20, unlockSlow := 23, disable := 16, enable := 18, acquire := 19, relMerge := 21, cas32 := 17, add32 := 22, tMutex := 39, tIMutex := 37, tPMutex := 54, tPIMutex := 74, tPI32 := 76, tUP := 42, tNoCopy := 34, tU32 := 35 }
theorem muLib : Go.Conc.Locks.MuLib Yba.prog muLink :=
  ⟨Yba.func12, Yba.func13, Yba.func14, Yba.func15, Yba.func16, Yba.func18, Yba.func19, Yba.func21, Yba.func17, Yba.func22, Yba.underlying37, Yba.runUnderlying37, Yba.sizeOf37, Yba.isAgg37, Yba.zeroValue37, Yba.underlying39, Yba.runUnderlying39, Yba.sizeOf39, Yba.isAgg39, Yba.zeroValue39, Yba.underlying54, Yba.runUnderlying54, Yba.sizeOf54, Yba.isAgg54, Yba.zeroValue54, Yba.underlying74, Yba.runUnderlying74, Yba.sizeOf74, Yba.isAgg74, Yba.zeroValue74, Yba.underlying76, Yba.runUnderlying76, Yba.sizeOf76, Yba.isAgg76, Yba.zeroValue76, Yba.underlying42, Yba.runUnderlying42, Yba.sizeOf42, Yba.isAgg42, Yba.zeroValue42, Yba.underlying34, Yba.runUnderlying34, Yba.sizeOf34, Yba.isAgg34, Yba.zeroValue34, Yba.underlying21, Yba.runUnderlying21, Yba.sizeOf21, Yba.isAgg21, Yba.zeroValue21, (by kernel_rfl)⟩
end Go.Proofs.Ybulkbkpe
