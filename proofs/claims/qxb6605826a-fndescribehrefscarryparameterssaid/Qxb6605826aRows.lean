/-
  No cell of these rows narrows 'for every input' (looked for: loops, veiled, ifaces, maps, wideKeys, modest, calm, conditions, laid).
  DERIVED. THE GIVEN ROWS OF THIS SEAT. 1 by the template 'for every input the law returns true; each argument reads behind the call as it read before'; 0 by the template 'total and deterministic' (their statements: Qxb6605826aTotals.lean).
  GIVEN WITH THE SEED: the statements are not yours to turn. If you find one false, say at which input.
  Laid BY PROGRAM, IN A SANDBOX (cutbox-rows.mjs): the forced cells as the released guide's own fill.sh prints them over the translation 5084973b1de32f72… (all of the seat's roots in one cut). By AI agents, Wed Nov 11 2026. No macro, syntax, notation, axiom, sorry.
-/
import Derived.Test.Qxb6605826aChecked
import GoSem.Claim
import GoSem.ClaimJoined
import GoSem.ClaimMapViews
import Derived.JoinedTies
import Derived.KernelRfl
namespace Go.Proofs.Qxb6605826a
/- THE CELL 'sum', in the pinned program and in every row, IS THE sha256 OF THE DUMP (.gsa) THAT Qxb6605826aProg.lean LOADS. Nothing in Lean hashes anything: it is a label: what it is worth is what the hold of that sum in a sandbox is worth. -/
noncomputable def Try.pinned : Pinned := { name := "qxb6605826a", sum := "5084973b1de32f72dca9ce3e827de5e22c8a9f6e9a7fc4e580429e151da24ab3", checked := Try.checked }
namespace Rows
def none {H : Type} : Left H := { results := [], args := [] }

/-- 'zzlaws_internal_solana_b1.FnDescribeHrefsCarryParameters': WHATEVER THE INPUT: true; the input reads as it did. -/
def fnDescribeHrefsCarryParametersSpec : ChangeSpec := { name := "fnDescribeHrefsCarryParameters", fn := fun _ => fun
  | [d1, d2, d3, d4, d5, d6, d7] => { results := [.lit (.bool true)], args := [d1, d2, d3, d4, d5, d6, d7] }
  | _ => none }
def fnDescribeHrefsCarryParametersRow : OpenClaim := { program := "qxb6605826a", sum := "5084973b1de32f72dca9ce3e827de5e22c8a9f6e9a7fc4e580429e151da24ab3", func := "example.com/intentwire/intentwire/zzlaws_internal_solana_b1.FnDescribeHrefsCarryParameters", spec := "fnDescribeHrefsCarryParameters", inPlace := ["internal/abi.NoEscape", "internal/bytealg.MakeNoZero"], apart := false }
def FnDescribeHrefsCarryParametersSaid : Prop := fnDescribeHrefsCarryParametersRow.holds Try.pinned (OpenSpec.ofChange fnDescribeHrefsCarryParametersSpec)

/-- ITS FALSE NEIGHBOUR: 'it returns false'. Refute it at one input. -/
def fnDescribeHrefsCarryParametersWrong : ChangeSpec := { name := "fnDescribeHrefsCarryParameters", fn := fun _ => fun
  | [d1, d2, d3, d4, d5, d6, d7] => { results := [.lit (.bool false)], args := [d1, d2, d3, d4, d5, d6, d7] }
  | _ => none }
def FnDescribeHrefsCarryParametersWrongFalsely : Prop := fnDescribeHrefsCarryParametersRow.holds Try.pinned (OpenSpec.ofChange fnDescribeHrefsCarryParametersWrong)

end Rows
end Go.Proofs.Qxb6605826a
