/-
  The numbers under which this dump holds sync.RWMutex's reader's side, typed by hand off the dump; checked by the kernel.
-/
import Derived.Test.Qxb6604758aLocks
import Derived.Conc.RwLone
namespace Go.Proofs
abbrev Try.rwLink : Go.Conc.Locks.RwLink := { Try.muLink with rlock := 24, runlock := 25, wlock := 0, wunlock := 0, i32add := 34, raceRead := 32, release := 0, rUnlockSlow := 39, semacqR := 35, semacqW := 0, semrel := 47, sfatal := 46, tRW := 70, tPRW := 90, tAI32 := 68, tPAI32 := 104, tPU32 := 96, tANoCopy := 66 }
theorem Try.rwCore : Go.Conc.Locks.RwCore Try.prog Try.rwLink :=
  ⟨Try.func34, Try.func32, Try.func33, Try.func36, Try.func37, Try.func38, Try.func45, Try.underlying70, Try.runUnderlying70, Try.sizeOf70, Try.isAgg70, Try.zeroValue70, Try.underlying68, Try.runUnderlying68, Try.sizeOf68, Try.isAgg68, Try.zeroValue68, Try.underlying90, Try.runUnderlying90, Try.sizeOf90, Try.isAgg90, Try.zeroValue90, Try.underlying104, Try.runUnderlying104, Try.sizeOf104, Try.isAgg104, Try.zeroValue104, Try.underlying96, Try.runUnderlying96, Try.sizeOf96, Try.isAgg96, Try.zeroValue96, Try.underlying66, Try.runUnderlying66, Try.sizeOf66, Try.isAgg66, Try.zeroValue66, Try.underlying48, Try.runUnderlying48, Try.sizeOf48, Try.isAgg48, Try.zeroValue48, Try.underlying52, Try.runUnderlying52, Try.sizeOf52, Try.isAgg52, Try.zeroValue52, Try.underlying93, Try.runUnderlying93, Try.sizeOf93, Try.isAgg93, Try.zeroValue93, Try.underlying106, Try.runUnderlying106, Try.sizeOf106, Try.isAgg106, Try.zeroValue106, Try.underlying92, Try.runUnderlying92, Try.sizeOf92, Try.isAgg92, Try.zeroValue92, Try.underlying21, Try.runUnderlying21, Try.sizeOf21, Try.isAgg21, Try.zeroValue21, (by kernel_rfl), (by kernel_rfl)⟩
theorem Try.rwRLib : Go.Conc.Locks.RwRLib Try.prog Try.rwLink := ⟨Try.rwCore, Try.func24, Try.func25⟩
end Go.Proofs
