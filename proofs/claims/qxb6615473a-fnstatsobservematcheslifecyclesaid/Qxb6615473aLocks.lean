import Derived.Test.Qxb6615473aProg
import Derived.Conc.RwLib
import Derived.Conc.MuData
import Derived.KernelRfl
namespace Go.Proofs.Qxb6615473a
/-- The numbers under which the program holds sync.Mutex's functions and types. -/
abbrev muLink : Go.Conc.Locks.MuLink := { lock := 31, unlock := 32, ilock := 42, iunlock := 43, lockSlow := 50, unlockSlow := 53, disable := 46, enable := 48, acquire := 49, relMerge := 51, cas32 := 47, add32 := 52, tMutex := 42, tIMutex := 40, tPMutex := 83, tPIMutex := 86, tPI32 := 88, tUP := 90, tNoCopy := 37, tU32 := 38 }
theorem muLib : Go.Conc.Locks.MuLib Try.prog muLink :=
  ⟨Try.func31, Try.func32, Try.func42, Try.func43, Try.func46, Try.func48, Try.func49, Try.func51, Try.func47, Try.func52, Try.underlying40, Try.runUnderlying40, Try.sizeOf40, Try.isAgg40, Try.zeroValue40, Try.underlying42, Try.runUnderlying42, Try.sizeOf42, Try.isAgg42, Try.zeroValue42, Try.underlying83, Try.runUnderlying83, Try.sizeOf83, Try.isAgg83, Try.zeroValue83, Try.underlying86, Try.runUnderlying86, Try.sizeOf86, Try.isAgg86, Try.zeroValue86, Try.underlying88, Try.runUnderlying88, Try.sizeOf88, Try.isAgg88, Try.zeroValue88, Try.underlying90, Try.runUnderlying90, Try.sizeOf90, Try.isAgg90, Try.zeroValue90, Try.underlying37, Try.runUnderlying37, Try.sizeOf37, Try.isAgg37, Try.zeroValue37, Try.underlying21, Try.runUnderlying21, Try.sizeOf21, Try.isAgg21, Try.zeroValue21, (by kernel_rfl)⟩
end Go.Proofs.Qxb6615473a
