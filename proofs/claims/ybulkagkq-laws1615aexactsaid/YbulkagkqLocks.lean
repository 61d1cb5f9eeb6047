/-
  The numbers under which this dump holds the library's locks' functions and types, and that it holds them (Derived/Conc/MuLib.lean, RwLib.lean). Laid by a small program after the make of the guide's Derived/Test/RwboxLocks.lean; checked by the kernel as it is compiled.
-/
import Derived.Test.YbulkagkqProg
import Derived.Conc.RwLib
import Derived.Conc.MuData
import Derived.KernelRfl
namespace Go.Proofs.Ybulkagkq
abbrev Yba.rwLink : Go.Conc.Locks.RwLink := { lock := 58, unlock := 0, ilock := 0, iunlock := 0, lockSlow := 0, unlockSlow := 0, disable := 19, enable := 22, acquire := 23, relMerge := 24, cas32 := 0, add32 := 28, tMutex := 34, tIMutex := 32, tPMutex := 78, tPIMutex := 0, tPI32 := 92, tUP := 77, tNoCopy := 29, tU32 := 30, rlock := 14, runlock := 15, wlock := 57, wunlock := 0, i32add := 20, raceRead := 18, release := 0, rUnlockSlow := 25, semacqR := 21, semacqW := 0, semrel := 30, sfatal := 29, tRW := 39, tPRW := 75, tAI32 := 37, tPAI32 := 90, tPU32 := 81, tANoCopy := 35 }
theorem Yba.rwCore : Go.Conc.Locks.RwCore Yba.prog Yba.rwLink :=
  ⟨Yba.func20, Yba.func18, Yba.func19, Yba.func22, Yba.func23, Yba.func24, Yba.func28, Yba.underlying39, Yba.runUnderlying39, Yba.sizeOf39, Yba.isAgg39, Yba.zeroValue39, Yba.underlying37, Yba.runUnderlying37, Yba.sizeOf37, Yba.isAgg37, Yba.zeroValue37, Yba.underlying75, Yba.runUnderlying75, Yba.sizeOf75, Yba.isAgg75, Yba.zeroValue75, Yba.underlying90, Yba.runUnderlying90, Yba.sizeOf90, Yba.isAgg90, Yba.zeroValue90, Yba.underlying81, Yba.runUnderlying81, Yba.sizeOf81, Yba.isAgg81, Yba.zeroValue81, Yba.underlying35, Yba.runUnderlying35, Yba.sizeOf35, Yba.isAgg35, Yba.zeroValue35, Yba.underlying30, Yba.runUnderlying30, Yba.sizeOf30, Yba.isAgg30, Yba.zeroValue30, Yba.underlying34, Yba.runUnderlying34, Yba.sizeOf34, Yba.isAgg34, Yba.zeroValue34, Yba.underlying78, Yba.runUnderlying78, Yba.sizeOf78, Yba.isAgg78, Yba.zeroValue78, Yba.underlying92, Yba.runUnderlying92, Yba.sizeOf92, Yba.isAgg92, Yba.zeroValue92, Yba.underlying77, Yba.runUnderlying77, Yba.sizeOf77, Yba.isAgg77, Yba.zeroValue77, Yba.underlying21, Yba.runUnderlying21, Yba.sizeOf21, Yba.isAgg21, Yba.zeroValue21, (by kernel_rfl), (by kernel_rfl)⟩
theorem Yba.rwRLib : Go.Conc.Locks.RwRLib Yba.prog Yba.rwLink := ⟨Yba.rwCore, Yba.func14, Yba.func15⟩
end Go.Proofs.Ybulkagkq

