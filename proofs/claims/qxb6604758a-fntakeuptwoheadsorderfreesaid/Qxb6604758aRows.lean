/-
  No cell of these rows narrows 'for every input' (looked for: loops, veiled, ifaces, maps, wideKeys, modest, calm, conditions, laid).
  DERIVED. THE GIVEN ROWS OF THIS SEAT. 3 by the template 'for every input the law returns true; each argument reads behind the call as it read before'; 0 by the template 'total and deterministic' (their statements: Qxb6604758aTotals.lean).
  GIVEN WITH THE SEED: the statements are not yours to turn. If you find one false, say at which input.
  Laid BY PROGRAM, IN A SANDBOX (cutbox-rows.mjs): the forced cells as the released guide's own fill.sh prints them over the translation d4ac1127e1766b69… (all of the seat's roots in one cut). By AI agents, Wed Nov 11 2026. No macro, syntax, notation, axiom, sorry.
-/
import Derived.Test.Qxb6604758aChecked
import GoSem.Claim
import GoSem.ClaimJoined
import GoSem.ClaimMapViews
import Derived.JoinedTies
import Derived.KernelRfl
namespace Go.Proofs.Qxb6604758a
/- THE CELL 'sum', in the pinned program and in every row, IS THE sha256 OF THE DUMP (.gsa) THAT Qxb6604758aProg.lean LOADS. Nothing in Lean hashes anything: it is a label: what it is worth is what the hold of that sum in a sandbox is worth. -/
noncomputable def Try.pinned : Pinned := { name := "qxb6604758a", sum := "d4ac1127e1766b691273d3aee16ebc6e8a69b8b7978bc0f2ec0f71048a10dd90", checked := Try.checked }
namespace Rows
def none {H : Type} : Left H := { results := [], args := [] }

/-- 'zzlaws_internal_store_b1.FnReleaseReturnsShare': WHATEVER THE INPUT: true; the input reads as it did. -/
def fnReleaseReturnsShareSpec : ChangeSpec := { name := "fnReleaseReturnsShare", fn := fun _ => fun
  | [d1, d2, d3] => { results := [.lit (.bool true)], args := [d1, d2, d3] }
  | _ => none }
def fnReleaseReturnsShareRow : OpenClaim := { program := "qxb6604758a", sum := "d4ac1127e1766b691273d3aee16ebc6e8a69b8b7978bc0f2ec0f71048a10dd90", func := "example.com/halflight/halflight/zzlaws_internal_store_b1.FnReleaseReturnsShare", spec := "fnReleaseReturnsShare", inPlace := ["(*internal/sync.Mutex).Lock", "internal/race.Disable", "sync/atomic.CompareAndSwapInt32", "internal/race.Enable", "internal/race.Acquire", "(*internal/sync.Mutex).lockSlow", "internal/sync.runtime_canSpin", "internal/sync.runtime_doSpin", "internal/sync.throw", "internal/sync.runtime_nanotime", "internal/sync.runtime_SemacquireMutex", "sync/atomic.AddInt32", "(*internal/sync.Mutex).Unlock", "internal/race.ReleaseMerge", "(*internal/sync.Mutex).unlockSlow", "internal/sync.fatal", "internal/sync.runtime_Semrelease"], apart := false }
def FnReleaseReturnsShareSaid : Prop := fnReleaseReturnsShareRow.holds Try.pinned (OpenSpec.ofChange fnReleaseReturnsShareSpec)

/-- ITS FALSE NEIGHBOUR: 'it returns false'. Refute it at one input. -/
def fnReleaseReturnsShareWrong : ChangeSpec := { name := "fnReleaseReturnsShare", fn := fun _ => fun
  | [d1, d2, d3] => { results := [.lit (.bool false)], args := [d1, d2, d3] }
  | _ => none }
def FnReleaseReturnsShareWrongFalsely : Prop := fnReleaseReturnsShareRow.holds Try.pinned (OpenSpec.ofChange fnReleaseReturnsShareWrong)

/-- 'zzlaws_internal_store_b1.FnReleaseOversizedFirstTwice': WHATEVER THE INPUT: true; the input reads as it did. -/
def fnReleaseOversizedFirstTwiceSpec : ChangeSpec := { name := "fnReleaseOversizedFirstTwice", fn := fun _ => fun
  | [d1, d2] => { results := [.lit (.bool true)], args := [d1, d2] }
  | _ => none }
def fnReleaseOversizedFirstTwiceRow : OpenClaim := { program := "qxb6604758a", sum := "d4ac1127e1766b691273d3aee16ebc6e8a69b8b7978bc0f2ec0f71048a10dd90", func := "example.com/halflight/halflight/zzlaws_internal_store_b1.FnReleaseOversizedFirstTwice", spec := "fnReleaseOversizedFirstTwice", inPlace := ["(*internal/sync.Mutex).Lock", "internal/race.Disable", "sync/atomic.CompareAndSwapInt32", "internal/race.Enable", "internal/race.Acquire", "(*internal/sync.Mutex).lockSlow", "internal/sync.runtime_canSpin", "internal/sync.runtime_doSpin", "internal/sync.throw", "internal/sync.runtime_nanotime", "internal/sync.runtime_SemacquireMutex", "sync/atomic.AddInt32", "(*internal/sync.Mutex).Unlock", "internal/race.ReleaseMerge", "(*internal/sync.Mutex).unlockSlow", "internal/sync.fatal", "internal/sync.runtime_Semrelease"], apart := false }
def FnReleaseOversizedFirstTwiceSaid : Prop := fnReleaseOversizedFirstTwiceRow.holds Try.pinned (OpenSpec.ofChange fnReleaseOversizedFirstTwiceSpec)

/-- ITS FALSE NEIGHBOUR: 'it returns false'. Refute it at one input. -/
def fnReleaseOversizedFirstTwiceWrong : ChangeSpec := { name := "fnReleaseOversizedFirstTwice", fn := fun _ => fun
  | [d1, d2] => { results := [.lit (.bool false)], args := [d1, d2] }
  | _ => none }
def FnReleaseOversizedFirstTwiceWrongFalsely : Prop := fnReleaseOversizedFirstTwiceRow.holds Try.pinned (OpenSpec.ofChange fnReleaseOversizedFirstTwiceWrong)

/-- 'zzlaws_internal_store_b1.FnTakeUpTwoHeadsOrderFree': WHATEVER THE INPUT: true; the input reads as it did. -/
def fnTakeUpTwoHeadsOrderFreeSpec : ChangeSpec := { name := "fnTakeUpTwoHeadsOrderFree", fn := fun _ => fun
  | [d1, d2] => { results := [.lit (.bool true)], args := [d1, d2] }
  | _ => none }
def fnTakeUpTwoHeadsOrderFreeRow : OpenClaim := { program := "qxb6604758a", sum := "d4ac1127e1766b691273d3aee16ebc6e8a69b8b7978bc0f2ec0f71048a10dd90", func := "example.com/halflight/halflight/zzlaws_internal_store_b1.FnTakeUpTwoHeadsOrderFree", spec := "fnTakeUpTwoHeadsOrderFree", inPlace := ["(*sync.RWMutex).RLock", "internal/race.Read", "internal/race.Disable", "sync/atomic.AddInt32", "sync.runtime_SemacquireRWMutexR", "internal/race.Enable", "internal/race.Acquire", "(*sync.RWMutex).RUnlock", "internal/race.ReleaseMerge", "(*sync.RWMutex).rUnlockSlow", "sync.fatal", "sync.runtime_Semrelease"], unfollowed := true, recurses := true, apart := false }
def FnTakeUpTwoHeadsOrderFreeSaid : Prop := fnTakeUpTwoHeadsOrderFreeRow.holds Try.pinned (OpenSpec.ofChange fnTakeUpTwoHeadsOrderFreeSpec)

/-- ITS FALSE NEIGHBOUR: 'it returns false'. Refute it at one input. -/
def fnTakeUpTwoHeadsOrderFreeWrong : ChangeSpec := { name := "fnTakeUpTwoHeadsOrderFree", fn := fun _ => fun
  | [d1, d2] => { results := [.lit (.bool false)], args := [d1, d2] }
  | _ => none }
def FnTakeUpTwoHeadsOrderFreeWrongFalsely : Prop := fnTakeUpTwoHeadsOrderFreeRow.holds Try.pinned (OpenSpec.ofChange fnTakeUpTwoHeadsOrderFreeWrong)

end Rows
end Go.Proofs.Qxb6604758a
