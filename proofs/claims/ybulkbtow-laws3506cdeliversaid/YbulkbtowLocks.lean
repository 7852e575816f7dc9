/-
  The numbers under which this dump holds the library's lock's functions and types, and that it holds them (Derived/Conc/MuLib.lean).
-/
import Derived.Test.YbulkbtowProg
import Derived.Conc.MuLib
import Derived.KernelRfl
namespace Go.Proofs.Ybulkbtow
abbrev muLink : Go.Conc.Locks.MuLink := { lock := 23, unlock := 13, ilock := 29, iunlock := 26, lockSlow := 37, unlockSlow := 36, disable := 30, enable := 31, acquire := 33, relMerge := 34, cas32 := 32, add32 := 35, tMutex := 86, tIMutex := 84, tPMutex := 102, tPIMutex := 106, tPI32 := 108, tUP := 110, tNoCopy := 81, tU32 := 82 }
theorem muLib : Go.Conc.Locks.MuLib Yba.prog muLink :=
  ⟨Yba.func23, Yba.func13, Yba.func29, Yba.func26, Yba.func30, Yba.func31, Yba.func33, Yba.func34, Yba.func32, Yba.func35, Yba.underlying84, Yba.runUnderlying84, Yba.sizeOf84, Yba.isAgg84, Yba.zeroValue84, Yba.underlying86, Yba.runUnderlying86, Yba.sizeOf86, Yba.isAgg86, Yba.zeroValue86, Yba.underlying102, Yba.runUnderlying102, Yba.sizeOf102, Yba.isAgg102, Yba.zeroValue102, Yba.underlying106, Yba.runUnderlying106, Yba.sizeOf106, Yba.isAgg106, Yba.zeroValue106, Yba.underlying108, Yba.runUnderlying108, Yba.sizeOf108, Yba.isAgg108, Yba.zeroValue108, Yba.underlying110, Yba.runUnderlying110, Yba.sizeOf110, Yba.isAgg110, Yba.zeroValue110, Yba.underlying81, Yba.runUnderlying81, Yba.sizeOf81, Yba.isAgg81, Yba.zeroValue81, Yba.underlying21, Yba.runUnderlying21, Yba.sizeOf21, Yba.isAgg21, Yba.zeroValue21, (by kernel_rfl)⟩
end Go.Proofs.Ybulkbtow
