/-
  The numbers under which this dump holds sync.Mutex's functions and types, typed by hand off the dump; checked by the kernel.
-/
import Derived.Test.Qxb6604758aProg
import Derived.Conc.RwLib
import Derived.Conc.MuData
import Derived.KernelRfl
namespace Go.Proofs
abbrev Try.muLink : Go.Conc.Locks.MuLink := { lock := 26, unlock := 27, ilock := 40, iunlock := 41, lockSlow := 49, unlockSlow := 50, disable := 33, enable := 36, acquire := 37, relMerge := 38, cas32 := 48, add32 := 45, tMutex := 52, tIMutex := 50, tPMutex := 93, tPIMutex := 108, tPI32 := 106, tUP := 92, tNoCopy := 47, tU32 := 48 }
theorem Try.muLib : Go.Conc.Locks.MuLib Try.prog Try.muLink :=
  ⟨Try.func26, Try.func27, Try.func40, Try.func41, Try.func33, Try.func36, Try.func37, Try.func38, Try.func48, Try.func45, Try.underlying50, Try.runUnderlying50, Try.sizeOf50, Try.isAgg50, Try.zeroValue50, Try.underlying52, Try.runUnderlying52, Try.sizeOf52, Try.isAgg52, Try.zeroValue52, Try.underlying93, Try.runUnderlying93, Try.sizeOf93, Try.isAgg93, Try.zeroValue93, Try.underlying108, Try.runUnderlying108, Try.sizeOf108, Try.isAgg108, Try.zeroValue108, Try.underlying106, Try.runUnderlying106, Try.sizeOf106, Try.isAgg106, Try.zeroValue106, Try.underlying92, Try.runUnderlying92, Try.sizeOf92, Try.isAgg92, Try.zeroValue92, Try.underlying47, Try.runUnderlying47, Try.sizeOf47, Try.isAgg47, Try.zeroValue47, Try.underlying21, Try.runUnderlying21, Try.sizeOf21, Try.isAgg21, Try.zeroValue21, (by kernel_rfl)⟩
end Go.Proofs
