/-
  The numbers under which this dump holds sync.Mutex's functions and types, typed by hand after the guide's worked texts (the tool that prints them does not lie in this box); the kernel checks each.
-/
import Derived.Test.Qxb6614376aProg
import Derived.Conc.MuLib
import Derived.KernelRfl
namespace Go.Proofs
abbrev Try.muLink : Go.Conc.Locks.MuLink := { lock := 29, unlock := 30, ilock := 43, iunlock := 44, lockSlow := 50, unlockSlow := 53, disable := 46, enable := 48, acquire := 49, relMerge := 51, cas32 := 47, add32 := 52, tMutex := 53, tIMutex := 51, tPMutex := 110, tPIMutex := 114, tPI32 := 116, tUP := 75, tNoCopy := 48, tU32 := 49 }
theorem Try.muLib : Go.Conc.Locks.MuLib Try.prog Try.muLink :=
  ⟨Try.func29, Try.func30, Try.func43, Try.func44, Try.func46, Try.func48, Try.func49, Try.func51, Try.func47, Try.func52, Try.underlying51, Try.runUnderlying51, Try.sizeOf51, Try.isAgg51, Try.zeroValue51, Try.underlying53, Try.runUnderlying53, Try.sizeOf53, Try.isAgg53, Try.zeroValue53, Try.underlying110, Try.runUnderlying110, Try.sizeOf110, Try.isAgg110, Try.zeroValue110, Try.underlying114, Try.runUnderlying114, Try.sizeOf114, Try.isAgg114, Try.zeroValue114, Try.underlying116, Try.runUnderlying116, Try.sizeOf116, Try.isAgg116, Try.zeroValue116, Try.underlying75, Try.runUnderlying75, Try.sizeOf75, Try.isAgg75, Try.zeroValue75, Try.underlying48, Try.runUnderlying48, Try.sizeOf48, Try.isAgg48, Try.zeroValue48, Try.underlying21, Try.runUnderlying21, Try.sizeOf21, Try.isAgg21, Try.zeroValue21, (by kernel_rfl)⟩
end Go.Proofs
