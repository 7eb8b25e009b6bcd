/-
  No cell of these rows narrows 'for every input' (looked for: loops, veiled, ifaces, maps, wideKeys, modest, calm, conditions, laid).
  DERIVED. THE GIVEN ROWS OF THIS SEAT. 3 by the template 'for every input the law returns true; each argument reads behind the call as it read before'; 0 by the template 'total and deterministic' (their statements: Qxb6605973aTotals.lean).
  GIVEN WITH THE SEED: the statements are not yours to turn. If you find one false, say at which input.
  Laid BY PROGRAM, IN A SANDBOX (cutbox-rows.mjs): the forced cells as the released guide's own fill.sh prints them over the translation 4a274cffabd1f0fd… (all of the seat's roots in one cut). By AI agents, Wed Nov 11 2026. No macro, syntax, notation, axiom, sorry.
-/
import Derived.Test.Qxb6605973aChecked
import GoSem.Claim
import GoSem.ClaimJoined
import GoSem.ClaimMapViews
import Derived.JoinedTies
import Derived.KernelRfl
namespace Go.Proofs.Qxb6605973a
/- THE CELL 'sum', in the pinned program and in every row, IS THE sha256 OF THE DUMP (.gsa) THAT Qxb6605973aProg.lean LOADS. Nothing in Lean hashes anything: it is a label: what it is worth is what the hold of that sum in a sandbox is worth. -/
noncomputable def Try.pinned : Pinned := { name := "qxb6605973a", sum := "4a274cffabd1f0fdb690d39a3d774a708756c8da64f05bcf7369a00278befed5", checked := Try.checked }
namespace Rows
def none {H : Type} : Left H := { results := [], args := [] }

/-- 'zzlaws_internal_apiserver_b1.FnNewStatusFreshFailureEnvelope': WHATEVER THE INPUT: true; the input reads as it did. -/
def fnNewStatusFreshFailureEnvelopeSpec : ChangeSpec := { name := "fnNewStatusFreshFailureEnvelope", fn := fun _ => fun
  | [d1, d2, d3, d4, d5, d6] => { results := [.lit (.bool true)], args := [d1, d2, d3, d4, d5, d6] }
  | _ => none }
def fnNewStatusFreshFailureEnvelopeRow : OpenClaim := { program := "qxb6605973a", sum := "4a274cffabd1f0fdb690d39a3d774a708756c8da64f05bcf7369a00278befed5", func := "example.com/coxswain/coxswain/zzlaws_internal_apiserver_b1.FnNewStatusFreshFailureEnvelope", spec := "fnNewStatusFreshFailureEnvelope", apart := false }
def FnNewStatusFreshFailureEnvelopeSaid : Prop := fnNewStatusFreshFailureEnvelopeRow.holds Try.pinned (OpenSpec.ofChange fnNewStatusFreshFailureEnvelopeSpec)

/-- ITS FALSE NEIGHBOUR: 'it returns false'. Refute it at one input. -/
def fnNewStatusFreshFailureEnvelopeWrong : ChangeSpec := { name := "fnNewStatusFreshFailureEnvelope", fn := fun _ => fun
  | [d1, d2, d3, d4, d5, d6] => { results := [.lit (.bool false)], args := [d1, d2, d3, d4, d5, d6] }
  | _ => none }
def FnNewStatusFreshFailureEnvelopeWrongFalsely : Prop := fnNewStatusFreshFailureEnvelopeRow.holds Try.pinned (OpenSpec.ofChange fnNewStatusFreshFailureEnvelopeWrong)

/-- 'zzlaws_internal_apiserver_b1.FnRlockCountsHolds': WHATEVER THE INPUT: true; the input reads as it did. -/
def fnRlockCountsHoldsSpec : ChangeSpec := { name := "fnRlockCountsHolds", fn := fun _ => fun
  | [d] => { results := [.lit (.bool true)], args := [d] }
  | _ => none }
def fnRlockCountsHoldsRow : OpenClaim := { program := "qxb6605973a", sum := "4a274cffabd1f0fdb690d39a3d774a708756c8da64f05bcf7369a00278befed5", func := "example.com/coxswain/coxswain/zzlaws_internal_apiserver_b1.FnRlockCountsHolds", spec := "fnRlockCountsHolds", inPlace := ["(*internal/sync.Mutex).Lock", "internal/race.Disable", "sync/atomic.CompareAndSwapInt32", "internal/race.Enable", "internal/race.Acquire", "(*internal/sync.Mutex).lockSlow", "internal/sync.runtime_canSpin", "internal/sync.runtime_doSpin", "internal/sync.throw", "internal/sync.runtime_nanotime", "internal/sync.runtime_SemacquireMutex", "sync/atomic.AddInt32", "(*internal/sync.Mutex).Unlock", "internal/race.ReleaseMerge", "(*internal/sync.Mutex).unlockSlow", "internal/sync.fatal", "internal/sync.runtime_Semrelease", "(*sync.RWMutex).RLock", "internal/race.Read", "sync.runtime_SemacquireRWMutexR", "(*sync.RWMutex).RUnlock", "(*sync.RWMutex).rUnlockSlow", "sync.fatal", "sync.runtime_Semrelease"], apart := false }
def FnRlockCountsHoldsSaid : Prop := fnRlockCountsHoldsRow.holds Try.pinned (OpenSpec.ofChange fnRlockCountsHoldsSpec)

/-- ITS FALSE NEIGHBOUR: 'it returns false'. Refute it at one input. -/
def fnRlockCountsHoldsWrong : ChangeSpec := { name := "fnRlockCountsHolds", fn := fun _ => fun
  | [d] => { results := [.lit (.bool false)], args := [d] }
  | _ => none }
def FnRlockCountsHoldsWrongFalsely : Prop := fnRlockCountsHoldsRow.holds Try.pinned (OpenSpec.ofChange fnRlockCountsHoldsWrong)

/-- 'zzlaws_internal_apiserver_b1.FnRlockUnlockUndoesItsOwn': WHATEVER THE INPUT: true; the input reads as it did. -/
def fnRlockUnlockUndoesItsOwnSpec : ChangeSpec := { name := "fnRlockUnlockUndoesItsOwn", fn := fun _ => fun
  | [d] => { results := [.lit (.bool true)], args := [d] }
  | _ => none }
def fnRlockUnlockUndoesItsOwnRow : OpenClaim := { program := "qxb6605973a", sum := "4a274cffabd1f0fdb690d39a3d774a708756c8da64f05bcf7369a00278befed5", func := "example.com/coxswain/coxswain/zzlaws_internal_apiserver_b1.FnRlockUnlockUndoesItsOwn", spec := "fnRlockUnlockUndoesItsOwn", inPlace := ["(*internal/sync.Mutex).Lock", "internal/race.Disable", "sync/atomic.CompareAndSwapInt32", "internal/race.Enable", "internal/race.Acquire", "(*internal/sync.Mutex).lockSlow", "internal/sync.runtime_canSpin", "internal/sync.runtime_doSpin", "internal/sync.throw", "internal/sync.runtime_nanotime", "internal/sync.runtime_SemacquireMutex", "sync/atomic.AddInt32", "(*internal/sync.Mutex).Unlock", "internal/race.ReleaseMerge", "(*internal/sync.Mutex).unlockSlow", "internal/sync.fatal", "internal/sync.runtime_Semrelease", "(*sync.RWMutex).RLock", "internal/race.Read", "sync.runtime_SemacquireRWMutexR", "(*sync.RWMutex).RUnlock", "(*sync.RWMutex).rUnlockSlow", "sync.fatal", "sync.runtime_Semrelease"], unfollowed := true, recurses := true, apart := false }
def FnRlockUnlockUndoesItsOwnSaid : Prop := fnRlockUnlockUndoesItsOwnRow.holds Try.pinned (OpenSpec.ofChange fnRlockUnlockUndoesItsOwnSpec)

/-- ITS FALSE NEIGHBOUR: 'it returns false'. Refute it at one input. -/
def fnRlockUnlockUndoesItsOwnWrong : ChangeSpec := { name := "fnRlockUnlockUndoesItsOwn", fn := fun _ => fun
  | [d] => { results := [.lit (.bool false)], args := [d] }
  | _ => none }
def FnRlockUnlockUndoesItsOwnWrongFalsely : Prop := fnRlockUnlockUndoesItsOwnRow.holds Try.pinned (OpenSpec.ofChange fnRlockUnlockUndoesItsOwnWrong)

end Rows
end Go.Proofs.Qxb6605973a
