/-
  The numbers under which this dump holds sync.Mutex's functions and types, and that it holds them (Derived/Conc/MuLib.lean). The kernel checks every number.
-/
import Derived.Test.Qxb6616935aProg
import Derived.Conc.MuLone
import Derived.KernelRfl
namespace Go.Proofs
abbrev Try.muLink : Go.Conc.Locks.MuLink := { lock := 21, unlock := 22, ilock := 25, iunlock := 26, lockSlow := 33, unlockSlow := 36, disable := 29, enable := 31, acquire := 32, relMerge := 34, cas32 := 30, add32 := 35, tMutex := 63, tIMutex := 61, tPMutex := 88, tPIMutex := 92, tPI32 := 94, tUP := 96, tNoCopy := 58, tU32 := 59 }
theorem Try.muLib : Go.Conc.Locks.MuLib Try.prog Try.muLink :=
  ⟨Try.func21, Try.func22, Try.func25, Try.func26, Try.func29, Try.func31, Try.func32, Try.func34, Try.func30, Try.func35, Try.underlying61, Try.runUnderlying61, Try.sizeOf61, Try.isAgg61, Try.zeroValue61, Try.underlying63, Try.runUnderlying63, Try.sizeOf63, Try.isAgg63, Try.zeroValue63, Try.underlying88, Try.runUnderlying88, Try.sizeOf88, Try.isAgg88, Try.zeroValue88, Try.underlying92, Try.runUnderlying92, Try.sizeOf92, Try.isAgg92, Try.zeroValue92, Try.underlying94, Try.runUnderlying94, Try.sizeOf94, Try.isAgg94, Try.zeroValue94, Try.underlying96, Try.runUnderlying96, Try.sizeOf96, Try.isAgg96, Try.zeroValue96, Try.underlying58, Try.runUnderlying58, Try.sizeOf58, Try.isAgg58, Try.zeroValue58, Try.underlying21, Try.runUnderlying21, Try.sizeOf21, Try.isAgg21, Try.zeroValue21, (by kernel_rfl)⟩
end Go.Proofs
