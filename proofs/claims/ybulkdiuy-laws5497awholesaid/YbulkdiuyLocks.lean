/-
  The numbers under which this dump holds the library's locks' functions and types, and that it holds them: checked by the kernel.
-/
import Derived.Test.YbulkdiuyProg
import Derived.Conc.RwLib
import Derived.Conc.MuData
import Derived.KernelRfl
namespace Go.Proofs
abbrev Yba.muLink : Go.Conc.Locks.MuLink := { lock := 15, unlock := 8, ilock := 24, iunlock := 19, lockSlow := 33, unlockSlow := 31, disable := 25, enable := 26, acquire := 28, relMerge := 29, cas32 := 27, add32 := 30, tMutex := 30, tIMutex := 28, tPMutex := 121, tPIMutex := 126, tPI32 := 128, tUP := 36, tNoCopy := 25, tU32 := 26 }
theorem Yba.muLib : Go.Conc.Locks.MuLib Yba.prog Yba.muLink :=
  ⟨Yba.func15, Yba.func8, Yba.func24, Yba.func19, Yba.func25, Yba.func26, Yba.func28, Yba.func29, Yba.func27, Yba.func30, Yba.underlying28, Yba.runUnderlying28, Yba.sizeOf28, Yba.isAgg28, Yba.zeroValue28, Yba.underlying30, Yba.runUnderlying30, Yba.sizeOf30, Yba.isAgg30, Yba.zeroValue30, Yba.underlying121, Yba.runUnderlying121, Yba.sizeOf121, Yba.isAgg121, Yba.zeroValue121, Yba.underlying126, Yba.runUnderlying126, Yba.sizeOf126, Yba.isAgg126, Yba.zeroValue126, Yba.underlying128, Yba.runUnderlying128, Yba.sizeOf128, Yba.isAgg128, Yba.zeroValue128, Yba.underlying36, Yba.runUnderlying36, Yba.sizeOf36, Yba.isAgg36, Yba.zeroValue36, Yba.underlying25, Yba.runUnderlying25, Yba.sizeOf25, Yba.isAgg25, Yba.zeroValue25, Yba.underlying21, Yba.runUnderlying21, Yba.sizeOf21, Yba.isAgg21, Yba.zeroValue21, (by kernel_rfl)⟩
end Go.Proofs
