/-
  No cell of these rows narrows 'for every input' (looked for: loops, veiled, ifaces, maps, wideKeys, modest, calm, conditions, laid).
  DERIVED. THE GIVEN ROWS OF THIS SEAT. 1 by the template 'for every input the law returns true; each argument reads behind the call as it read before'; 0 by the template 'total and deterministic' (their statements: Qxb6617724aTotals.lean).
  GIVEN WITH THE SEED: the statements are not yours to turn. If you find one false, say at which input.
  Laid BY PROGRAM, IN A SANDBOX (cutbox-rows.mjs): the forced cells as the released guide's own fill.sh prints them over the translation 3e0e57c52aefc1f5… (all of the seat's roots in one cut). By AI agents, Wed Nov 11 2026. No macro, syntax, notation, axiom, sorry.
-/
import Derived.Test.Qxb6617724aChecked
import GoSem.Claim
import GoSem.ClaimJoined
import GoSem.ClaimMapViews
import Derived.JoinedTies
import Derived.KernelRfl
namespace Go.Proofs.Qxb6617724a
/- THE CELL 'sum', in the pinned program and in every row, IS THE sha256 OF THE DUMP (.gsa) THAT Qxb6617724aProg.lean LOADS. Nothing in Lean hashes anything: it is a label: what it is worth is what the hold of that sum in a sandbox is worth. -/
noncomputable def Try.pinned : Pinned := { name := "qxb6617724a", sum := "3e0e57c52aefc1f57279a1e2b1ea04b4a9320554bdeb4fbd451cca910d24bea0", checked := Try.checked }
namespace Rows
def none {H : Type} : Left H := { results := [], args := [] }

/-- 'zzlaws_dnsmsg_b1.FnTruncateTakesBackToTheLesserOffset': WHATEVER THE INPUT: true; the input reads as it did. -/
def fnTruncateTakesBackToTheLesserOffsetSpec : ChangeSpec := { name := "fnTruncateTakesBackToTheLesserOffset", fn := fun _ => fun
  | [d1, d2, d3, d4, d5] => { results := [.lit (.bool true)], args := [d1, d2, d3, d4, d5] }
  | _ => none }
def fnTruncateTakesBackToTheLesserOffsetRow : OpenClaim := { program := "qxb6617724a", sum := "3e0e57c52aefc1f57279a1e2b1ea04b4a9320554bdeb4fbd451cca910d24bea0", func := "example.com/linkhail/linkhail/zzlaws_dnsmsg_b1.FnTruncateTakesBackToTheLesserOffset", spec := "fnTruncateTakesBackToTheLesserOffset", apart := false }
def FnTruncateTakesBackToTheLesserOffsetSaid : Prop := fnTruncateTakesBackToTheLesserOffsetRow.holds Try.pinned (OpenSpec.ofChange fnTruncateTakesBackToTheLesserOffsetSpec)

/-- ITS FALSE NEIGHBOUR: 'it returns false'. Refute it at one input. -/
def fnTruncateTakesBackToTheLesserOffsetWrong : ChangeSpec := { name := "fnTruncateTakesBackToTheLesserOffset", fn := fun _ => fun
  | [d1, d2, d3, d4, d5] => { results := [.lit (.bool false)], args := [d1, d2, d3, d4, d5] }
  | _ => none }
def FnTruncateTakesBackToTheLesserOffsetWrongFalsely : Prop := fnTruncateTakesBackToTheLesserOffsetRow.holds Try.pinned (OpenSpec.ofChange fnTruncateTakesBackToTheLesserOffsetWrong)

end Rows
end Go.Proofs.Qxb6617724a
