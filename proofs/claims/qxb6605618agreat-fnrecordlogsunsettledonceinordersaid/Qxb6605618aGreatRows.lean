/-
  No cell of these rows narrows 'for every input' (looked for: loops, veiled, ifaces, maps, wideKeys, modest, calm, conditions, laid).
  DERIVED. THE GIVEN ROWS OF THIS SEAT. 2 by the template 'for every input the law returns true; each argument reads behind the call as it read before'; 0 by the template 'total and deterministic' (their statements: Qxb6605618aGreatTotals.lean).
  GIVEN WITH THE SEED: the statements are not yours to turn. If you find one false, say at which input.
  Laid BY PROGRAM, IN A SANDBOX (cutbox-rows.mjs): the forced cells as the released guide's own fill.sh prints them over the translation cc1466273a95184a… (all of the seat's roots in one cut). By AI agents, Wed Nov 11 2026. No macro, syntax, notation, axiom, sorry.
-/
import Derived.Test.Qxb6605618aGreatChecked
import GoSem.Claim
import GoSem.ClaimJoined
import GoSem.ClaimMapViews
import Derived.JoinedTies
import Derived.KernelRfl
namespace Go.Proofs.Qxb6605618aGreat
/- THE CELL 'sum', in the pinned program and in every row, IS THE sha256 OF THE DUMP (.gsa) THAT Qxb6605618aGreatProg.lean LOADS. Nothing in Lean hashes anything: it is a label: what it is worth is what the hold of that sum in a sandbox is worth. -/
noncomputable def Tryz.pinned : Pinned := { name := "qxb6605618agreat", sum := "cc1466273a95184a855afe89bdbace53104584af265ac63fff7c50eaf50d81cf", checked := Tryz.checked }
namespace Rows
def none {H : Type} : Left H := { results := [], args := [] }

/-- 'zzlaws_kubetest_b1.FnRecordLogsEachRecorderOnce': WHATEVER THE INPUT: true; the input reads as it did. -/
def fnRecordLogsEachRecorderOnceSpec : ChangeSpec := { name := "fnRecordLogsEachRecorderOnce", fn := fun _ => fun
  | [d1, d2, d3, d4, d5, d6, d7, d8, d9, d10, d11, d12] => { results := [.lit (.bool true)], args := [d1, d2, d3, d4, d5, d6, d7, d8, d9, d10, d11, d12] }
  | _ => none }
def fnRecordLogsEachRecorderOnceRow : OpenClaim := { program := "qxb6605618agreat", sum := "cc1466273a95184a855afe89bdbace53104584af265ac63fff7c50eaf50d81cf", func := "example.com/evenkeel/evenkeel/zzlaws_kubetest_b1.FnRecordLogsEachRecorderOnce", spec := "fnRecordLogsEachRecorderOnce", inPlace := ["(*internal/sync.Mutex).Lock", "internal/race.Disable", "sync/atomic.CompareAndSwapInt32", "internal/race.Enable", "internal/race.Acquire", "(*internal/sync.Mutex).lockSlow", "internal/sync.runtime_canSpin", "internal/sync.runtime_doSpin", "internal/sync.throw", "internal/sync.runtime_nanotime", "internal/sync.runtime_SemacquireMutex", "sync/atomic.AddInt32", "(*internal/sync.Mutex).Unlock", "internal/race.ReleaseMerge", "(*internal/sync.Mutex).unlockSlow", "internal/sync.fatal", "internal/sync.runtime_Semrelease"], plainKeys := false, apart := false }
def FnRecordLogsEachRecorderOnceSaid : Prop := fnRecordLogsEachRecorderOnceRow.holds Tryz.pinned (OpenSpec.ofChange fnRecordLogsEachRecorderOnceSpec)

/-- ITS FALSE NEIGHBOUR: 'it returns false'. Refute it at one input. -/
def fnRecordLogsEachRecorderOnceWrong : ChangeSpec := { name := "fnRecordLogsEachRecorderOnce", fn := fun _ => fun
  | [d1, d2, d3, d4, d5, d6, d7, d8, d9, d10, d11, d12] => { results := [.lit (.bool false)], args := [d1, d2, d3, d4, d5, d6, d7, d8, d9, d10, d11, d12] }
  | _ => none }
def FnRecordLogsEachRecorderOnceWrongFalsely : Prop := fnRecordLogsEachRecorderOnceRow.holds Tryz.pinned (OpenSpec.ofChange fnRecordLogsEachRecorderOnceWrong)

/-- 'zzlaws_kubetest_b1.FnRecordLogsUnsettledOnceInOrder': WHATEVER THE INPUT: true; the input reads as it did. -/
def fnRecordLogsUnsettledOnceInOrderSpec : ChangeSpec := { name := "fnRecordLogsUnsettledOnceInOrder", fn := fun _ => fun
  | [d1, d2, d3, d4] => { results := [.lit (.bool true)], args := [d1, d2, d3, d4] }
  | _ => none }
def fnRecordLogsUnsettledOnceInOrderRow : OpenClaim := { program := "qxb6605618agreat", sum := "cc1466273a95184a855afe89bdbace53104584af265ac63fff7c50eaf50d81cf", func := "example.com/evenkeel/evenkeel/zzlaws_kubetest_b1.FnRecordLogsUnsettledOnceInOrder", spec := "fnRecordLogsUnsettledOnceInOrder", inPlace := ["(*internal/sync.Mutex).Lock", "internal/race.Disable", "sync/atomic.CompareAndSwapInt32", "internal/race.Enable", "internal/race.Acquire", "(*internal/sync.Mutex).lockSlow", "internal/sync.runtime_canSpin", "internal/sync.runtime_doSpin", "internal/sync.throw", "internal/sync.runtime_nanotime", "internal/sync.runtime_SemacquireMutex", "sync/atomic.AddInt32", "(*internal/sync.Mutex).Unlock", "internal/race.ReleaseMerge", "(*internal/sync.Mutex).unlockSlow", "internal/sync.fatal", "internal/sync.runtime_Semrelease"], plainKeys := false, apart := false }
def FnRecordLogsUnsettledOnceInOrderSaid : Prop := fnRecordLogsUnsettledOnceInOrderRow.holds Tryz.pinned (OpenSpec.ofChange fnRecordLogsUnsettledOnceInOrderSpec)

/-- ITS FALSE NEIGHBOUR: 'it returns false'. Refute it at one input. -/
def fnRecordLogsUnsettledOnceInOrderWrong : ChangeSpec := { name := "fnRecordLogsUnsettledOnceInOrder", fn := fun _ => fun
  | [d1, d2, d3, d4] => { results := [.lit (.bool false)], args := [d1, d2, d3, d4] }
  | _ => none }
def FnRecordLogsUnsettledOnceInOrderWrongFalsely : Prop := fnRecordLogsUnsettledOnceInOrderRow.holds Tryz.pinned (OpenSpec.ofChange fnRecordLogsUnsettledOnceInOrderWrong)

end Rows
end Go.Proofs.Qxb6605618aGreat
