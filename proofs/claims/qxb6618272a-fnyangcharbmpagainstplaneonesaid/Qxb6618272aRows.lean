/-
  No cell of these rows narrows 'for every input' (looked for: loops, veiled, ifaces, maps, wideKeys, modest, calm, conditions, laid).
  DERIVED. THE GIVEN ROWS OF THIS SEAT. 2 by the template 'for every input the law returns true; each argument reads behind the call as it read before'; 0 by the template 'total and deterministic' (their statements: Qxb6618272aTotals.lean).
  GIVEN WITH THE SEED: the statements are not yours to turn. If you find one false, say at which input.
  Laid BY PROGRAM, IN A SANDBOX (cutbox-rows.mjs): the forced cells as the released guide's own fill.sh prints them over the translation 11558e8ca96ec8a9… (all of the seat's roots in one cut). By AI agents, Wed Nov 11 2026. No macro, syntax, notation, axiom, sorry.
-/
import Derived.Test.Qxb6618272aChecked
import GoSem.Claim
import GoSem.ClaimJoined
import GoSem.ClaimMapViews
import Derived.JoinedTies
import Derived.KernelRfl
namespace Go.Proofs.Qxb6618272a
/- THE CELL 'sum', in the pinned program and in every row, IS THE sha256 OF THE DUMP (.gsa) THAT Qxb6618272aProg.lean LOADS. Nothing in Lean hashes anything: it is a label: what it is worth is what the hold of that sum in a sandbox is worth. -/
noncomputable def Try.pinned : Pinned := { name := "qxb6618272a", sum := "11558e8ca96ec8a9901c0c3534b743a7c7b33035153c861df600bdb95333bb6b", checked := Try.checked }
namespace Rows
def none {H : Type} : Left H := { results := [], args := [] }

/-- 'zzlaws_root_b1.FnYangCharSupplementaryPlanes': WHATEVER THE INPUT: true; the input reads as it did. -/
def fnYangCharSupplementaryPlanesSpec : ChangeSpec := { name := "fnYangCharSupplementaryPlanes", fn := fun _ => fun
  | [d1, d2] => { results := [.lit (.bool true)], args := [d1, d2] }
  | _ => none }
def fnYangCharSupplementaryPlanesRow : OpenClaim := { program := "qxb6618272a", sum := "11558e8ca96ec8a9901c0c3534b743a7c7b33035153c861df600bdb95333bb6b", func := "example.com/moldr/moldr/zzlaws_root_b1.FnYangCharSupplementaryPlanes", spec := "fnYangCharSupplementaryPlanes", apart := false }
def FnYangCharSupplementaryPlanesSaid : Prop := fnYangCharSupplementaryPlanesRow.holds Try.pinned (OpenSpec.ofChange fnYangCharSupplementaryPlanesSpec)

/-- ITS FALSE NEIGHBOUR: 'it returns false'. Refute it at one input. -/
def fnYangCharSupplementaryPlanesWrong : ChangeSpec := { name := "fnYangCharSupplementaryPlanes", fn := fun _ => fun
  | [d1, d2] => { results := [.lit (.bool false)], args := [d1, d2] }
  | _ => none }
def FnYangCharSupplementaryPlanesWrongFalsely : Prop := fnYangCharSupplementaryPlanesRow.holds Try.pinned (OpenSpec.ofChange fnYangCharSupplementaryPlanesWrong)

/-- 'zzlaws_root_b1.FnYangCharBMPAgainstPlaneOne': WHATEVER THE INPUT: true; the input reads as it did. -/
def fnYangCharBMPAgainstPlaneOneSpec : ChangeSpec := { name := "fnYangCharBMPAgainstPlaneOne", fn := fun _ => fun
  | [d] => { results := [.lit (.bool true)], args := [d] }
  | _ => none }
def fnYangCharBMPAgainstPlaneOneRow : OpenClaim := { program := "qxb6618272a", sum := "11558e8ca96ec8a9901c0c3534b743a7c7b33035153c861df600bdb95333bb6b", func := "example.com/moldr/moldr/zzlaws_root_b1.FnYangCharBMPAgainstPlaneOne", spec := "fnYangCharBMPAgainstPlaneOne", apart := false }
def FnYangCharBMPAgainstPlaneOneSaid : Prop := fnYangCharBMPAgainstPlaneOneRow.holds Try.pinned (OpenSpec.ofChange fnYangCharBMPAgainstPlaneOneSpec)

/-- ITS FALSE NEIGHBOUR: 'it returns false'. Refute it at one input. -/
def fnYangCharBMPAgainstPlaneOneWrong : ChangeSpec := { name := "fnYangCharBMPAgainstPlaneOne", fn := fun _ => fun
  | [d] => { results := [.lit (.bool false)], args := [d] }
  | _ => none }
def FnYangCharBMPAgainstPlaneOneWrongFalsely : Prop := fnYangCharBMPAgainstPlaneOneRow.holds Try.pinned (OpenSpec.ofChange fnYangCharBMPAgainstPlaneOneWrong)

end Rows
end Go.Proofs.Qxb6618272a
