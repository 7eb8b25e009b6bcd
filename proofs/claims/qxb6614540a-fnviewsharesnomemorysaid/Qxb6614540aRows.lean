/-
  No cell of these rows narrows 'for every input' (looked for: loops, veiled, ifaces, maps, wideKeys, modest, calm, conditions, laid).
  DERIVED. THE GIVEN ROWS OF THIS SEAT. 6 by the template 'for every input the law returns true; each argument reads behind the call as it read before'; 0 by the template 'total and deterministic' (their statements: Qxb6614540aTotals.lean).
  GIVEN WITH THE SEED: the statements are not yours to turn. If you find one false, say at which input.
  Laid BY PROGRAM, IN A SANDBOX (cutbox-rows.mjs): the forced cells as the released guide's own fill.sh prints them over the translation b33b6dc255375bc1… (all of the seat's roots in one cut). By AI agents, Wed Nov 11 2026. No macro, syntax, notation, axiom, sorry.
-/
import Derived.Test.Qxb6614540aChecked
import GoSem.Claim
import GoSem.ClaimJoined
import GoSem.ClaimMapViews
import Derived.JoinedTies
import Derived.KernelRfl
namespace Go.Proofs.Qxb6614540a
/- THE CELL 'sum', in the pinned program and in every row, IS THE sha256 OF THE DUMP (.gsa) THAT Qxb6614540aProg.lean LOADS. Nothing in Lean hashes anything: it is a label: what it is worth is what the hold of that sum in a sandbox is worth. -/
noncomputable def Try.pinned : Pinned := { name := "qxb6614540a", sum := "b33b6dc255375bc154de58c629dd227dea52243690ffb83926a58d2c9d6687bd", checked := Try.checked }
namespace Rows
def none {H : Type} : Left H := { results := [], args := [] }

/-- 'zzlaws_root_b1.FnRemovedSplitsOverAnyCut': WHATEVER THE INPUT: true; the input reads as it did. -/
def fnRemovedSplitsOverAnyCutSpec : ChangeSpec := { name := "fnRemovedSplitsOverAnyCut", fn := fun _ => fun
  | [d1, d2, d3, d4] => { results := [.lit (.bool true)], args := [d1, d2, d3, d4] }
  | _ => none }
def fnRemovedSplitsOverAnyCutRow : OpenClaim := { program := "qxb6614540a", sum := "b33b6dc255375bc154de58c629dd227dea52243690ffb83926a58d2c9d6687bd", func := "example.com/quorumlog/quorumlog/zzlaws_root_b1.FnRemovedSplitsOverAnyCut", spec := "fnRemovedSplitsOverAnyCut", apart := false }
def FnRemovedSplitsOverAnyCutSaid : Prop := fnRemovedSplitsOverAnyCutRow.holds Try.pinned (OpenSpec.ofChange fnRemovedSplitsOverAnyCutSpec)

/-- ITS FALSE NEIGHBOUR: 'it returns false'. Refute it at one input. -/
def fnRemovedSplitsOverAnyCutWrong : ChangeSpec := { name := "fnRemovedSplitsOverAnyCut", fn := fun _ => fun
  | [d1, d2, d3, d4] => { results := [.lit (.bool false)], args := [d1, d2, d3, d4] }
  | _ => none }
def FnRemovedSplitsOverAnyCutWrongFalsely : Prop := fnRemovedSplitsOverAnyCutRow.holds Try.pinned (OpenSpec.ofChange fnRemovedSplitsOverAnyCutWrong)

/-- 'zzlaws_root_b1.FnRemovedAfterInsertAndErase': WHATEVER THE INPUT: true; the input reads as it did. -/
def fnRemovedAfterInsertAndEraseSpec : ChangeSpec := { name := "fnRemovedAfterInsertAndErase", fn := fun _ => fun
  | [d1, d2, d3, d4, d5, d6] => { results := [.lit (.bool true)], args := [d1, d2, d3, d4, d5, d6] }
  | _ => none }
def fnRemovedAfterInsertAndEraseRow : OpenClaim := { program := "qxb6614540a", sum := "b33b6dc255375bc154de58c629dd227dea52243690ffb83926a58d2c9d6687bd", func := "example.com/quorumlog/quorumlog/zzlaws_root_b1.FnRemovedAfterInsertAndErase", spec := "fnRemovedAfterInsertAndErase", apart := false }
def FnRemovedAfterInsertAndEraseSaid : Prop := fnRemovedAfterInsertAndEraseRow.holds Try.pinned (OpenSpec.ofChange fnRemovedAfterInsertAndEraseSpec)

/-- ITS FALSE NEIGHBOUR: 'it returns false'. Refute it at one input. -/
def fnRemovedAfterInsertAndEraseWrong : ChangeSpec := { name := "fnRemovedAfterInsertAndErase", fn := fun _ => fun
  | [d1, d2, d3, d4, d5, d6] => { results := [.lit (.bool false)], args := [d1, d2, d3, d4, d5, d6] }
  | _ => none }
def FnRemovedAfterInsertAndEraseWrongFalsely : Prop := fnRemovedAfterInsertAndEraseRow.holds Try.pinned (OpenSpec.ofChange fnRemovedAfterInsertAndEraseWrong)

/-- 'zzlaws_root_b1.FnViewSharesNoMemory': WHATEVER THE INPUT: true; the input reads as it did. -/
def fnViewSharesNoMemorySpec : ChangeSpec := { name := "fnViewSharesNoMemory", fn := fun _ => fun
  | [d1, d2] => { results := [.lit (.bool true)], args := [d1, d2] }
  | _ => none }
def fnViewSharesNoMemoryRow : OpenClaim := { program := "qxb6614540a", sum := "b33b6dc255375bc154de58c629dd227dea52243690ffb83926a58d2c9d6687bd", func := "example.com/quorumlog/quorumlog/zzlaws_root_b1.FnViewSharesNoMemory", spec := "fnViewSharesNoMemory", apart := false }
def FnViewSharesNoMemorySaid : Prop := fnViewSharesNoMemoryRow.holds Try.pinned (OpenSpec.ofChange fnViewSharesNoMemorySpec)

/-- ITS FALSE NEIGHBOUR: 'it returns false'. Refute it at one input. -/
def fnViewSharesNoMemoryWrong : ChangeSpec := { name := "fnViewSharesNoMemory", fn := fun _ => fun
  | [d1, d2] => { results := [.lit (.bool false)], args := [d1, d2] }
  | _ => none }
def FnViewSharesNoMemoryWrongFalsely : Prop := fnViewSharesNoMemoryRow.holds Try.pinned (OpenSpec.ofChange fnViewSharesNoMemoryWrong)

/-- 'zzlaws_root_b1.FnViewIsIdempotent': WHATEVER THE INPUT: true; the input reads as it did. -/
def fnViewIsIdempotentSpec : ChangeSpec := { name := "fnViewIsIdempotent", fn := fun _ => fun
  | [d1, d2, d3] => { results := [.lit (.bool true)], args := [d1, d2, d3] }
  | _ => none }
def fnViewIsIdempotentRow : OpenClaim := { program := "qxb6614540a", sum := "b33b6dc255375bc154de58c629dd227dea52243690ffb83926a58d2c9d6687bd", func := "example.com/quorumlog/quorumlog/zzlaws_root_b1.FnViewIsIdempotent", spec := "fnViewIsIdempotent", apart := false }
def FnViewIsIdempotentSaid : Prop := fnViewIsIdempotentRow.holds Try.pinned (OpenSpec.ofChange fnViewIsIdempotentSpec)

/-- ITS FALSE NEIGHBOUR: 'it returns false'. Refute it at one input. -/
def fnViewIsIdempotentWrong : ChangeSpec := { name := "fnViewIsIdempotent", fn := fun _ => fun
  | [d1, d2, d3] => { results := [.lit (.bool false)], args := [d1, d2, d3] }
  | _ => none }
def FnViewIsIdempotentWrongFalsely : Prop := fnViewIsIdempotentRow.holds Try.pinned (OpenSpec.ofChange fnViewIsIdempotentWrong)

/-- 'zzlaws_root_b1.FnTellingSplitsOverAnyCut': WHATEVER THE INPUT: true; the input reads as it did. -/
def fnTellingSplitsOverAnyCutSpec : ChangeSpec := { name := "fnTellingSplitsOverAnyCut", fn := fun _ => fun
  | [d1, d2, d3, d4] => { results := [.lit (.bool true)], args := [d1, d2, d3, d4] }
  | _ => none }
def fnTellingSplitsOverAnyCutRow : OpenClaim := { program := "qxb6614540a", sum := "b33b6dc255375bc154de58c629dd227dea52243690ffb83926a58d2c9d6687bd", func := "example.com/quorumlog/quorumlog/zzlaws_root_b1.FnTellingSplitsOverAnyCut", spec := "fnTellingSplitsOverAnyCut", apart := false }
def FnTellingSplitsOverAnyCutSaid : Prop := fnTellingSplitsOverAnyCutRow.holds Try.pinned (OpenSpec.ofChange fnTellingSplitsOverAnyCutSpec)

/-- ITS FALSE NEIGHBOUR: 'it returns false'. Refute it at one input. -/
def fnTellingSplitsOverAnyCutWrong : ChangeSpec := { name := "fnTellingSplitsOverAnyCut", fn := fun _ => fun
  | [d1, d2, d3, d4] => { results := [.lit (.bool false)], args := [d1, d2, d3, d4] }
  | _ => none }
def FnTellingSplitsOverAnyCutWrongFalsely : Prop := fnTellingSplitsOverAnyCutRow.holds Try.pinned (OpenSpec.ofChange fnTellingSplitsOverAnyCutWrong)

/-- 'zzlaws_root_b1.FnTellingGrowsWithCommit': WHATEVER THE INPUT: true; the input reads as it did. -/
def fnTellingGrowsWithCommitSpec : ChangeSpec := { name := "fnTellingGrowsWithCommit", fn := fun _ => fun
  | [d1, d2, d3, d4] => { results := [.lit (.bool true)], args := [d1, d2, d3, d4] }
  | _ => none }
def fnTellingGrowsWithCommitRow : OpenClaim := { program := "qxb6614540a", sum := "b33b6dc255375bc154de58c629dd227dea52243690ffb83926a58d2c9d6687bd", func := "example.com/quorumlog/quorumlog/zzlaws_root_b1.FnTellingGrowsWithCommit", spec := "fnTellingGrowsWithCommit", apart := false }
def FnTellingGrowsWithCommitSaid : Prop := fnTellingGrowsWithCommitRow.holds Try.pinned (OpenSpec.ofChange fnTellingGrowsWithCommitSpec)

/-- ITS FALSE NEIGHBOUR: 'it returns false'. Refute it at one input. -/
def fnTellingGrowsWithCommitWrong : ChangeSpec := { name := "fnTellingGrowsWithCommit", fn := fun _ => fun
  | [d1, d2, d3, d4] => { results := [.lit (.bool false)], args := [d1, d2, d3, d4] }
  | _ => none }
def FnTellingGrowsWithCommitWrongFalsely : Prop := fnTellingGrowsWithCommitRow.holds Try.pinned (OpenSpec.ofChange fnTellingGrowsWithCommitWrong)

end Rows
end Go.Proofs.Qxb6614540a
