/-
  DERIVED. The numbers under which the dump ybulkbhxs holds sync.Mutex's functions and types, typed by hand after the print of the worked text (StatsLocks); the kernel checks every number.
-/
import Derived.Test.YbulkbhxsProg
import Derived.Conc.MuLib
import Derived.KernelRfl
namespace Go.Proofs
abbrev Yba.muLink : Go.Conc.Locks.MuLink := { lock := 9, unlock := 10, ilock := 11, iunlock := 12, lockSlow := 17, unlockSlow := 20, disable := 13, enable := 15, acquire := 16, relMerge := 18, cas32 := 14, add32 := 19, tMutex := 42, tIMutex := 40, tPMutex := 67, tPIMutex := 68, tPI32 := 70, tUP := 72, tNoCopy := 37, tU32 := 38 }
theorem Yba.muLib : Go.Conc.Locks.MuLib Yba.prog Yba.muLink :=
  ⟨Yba.func9, Yba.func10, Yba.func11, Yba.func12, Yba.func13, Yba.func15, Yba.func16, Yba.func18, Yba.func14, Yba.func19, Yba.underlying40, Yba.runUnderlying40, Yba.sizeOf40, Yba.isAgg40, Yba.zeroValue40, Yba.underlying42, Yba.runUnderlying42, Yba.sizeOf42, Yba.isAgg42, Yba.zeroValue42, Yba.underlying67, Yba.runUnderlying67, Yba.sizeOf67, Yba.isAgg67, Yba.zeroValue67, Yba.underlying68, Yba.runUnderlying68, Yba.sizeOf68, Yba.isAgg68, Yba.zeroValue68, Yba.underlying70, Yba.runUnderlying70, Yba.sizeOf70, Yba.isAgg70, Yba.zeroValue70, Yba.underlying72, Yba.runUnderlying72, Yba.sizeOf72, Yba.isAgg72, Yba.zeroValue72, Yba.underlying37, Yba.runUnderlying37, Yba.sizeOf37, Yba.isAgg37, Yba.zeroValue37, Yba.underlying21, Yba.runUnderlying21, Yba.sizeOf21, Yba.isAgg21, Yba.zeroValue21, (by kernel_rfl)⟩
end Go.Proofs
