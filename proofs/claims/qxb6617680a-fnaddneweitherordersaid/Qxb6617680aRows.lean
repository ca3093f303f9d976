/-
  No cell of these rows narrows 'for every input' (looked for: loops, veiled, ifaces, maps, wideKeys, modest, calm, conditions, laid).
  DERIVED. THE GIVEN ROWS OF THIS SEAT. 2 by the template 'for every input the law returns true; each argument reads behind the call as it read before'; 0 by the template 'total and deterministic' (their statements: Qxb6617680aTotals.lean).
  GIVEN WITH THE SEED: the statements are not yours to turn. If you find one false, say at which input.
  Laid BY PROGRAM, IN A SANDBOX (cutbox-rows.mjs): the forced cells as the released guide's own fill.sh prints them over the translation 73bf2513403937c6… (all of the seat's roots in one cut). By AI agents, Wed Nov 11 2026. No macro, syntax, notation, axiom, sorry.
-/
import Derived.Test.Qxb6617680aChecked
import GoSem.Claim
import GoSem.ClaimJoined
import GoSem.ClaimMapViews
import Derived.JoinedTies
import Derived.KernelRfl
namespace Go.Proofs.Qxb6617680a
/- THE CELL 'sum', in the pinned program and in every row, IS THE sha256 OF THE DUMP (.gsa) THAT Qxb6617680aProg.lean LOADS. Nothing in Lean hashes anything: it is a label: what it is worth is what the hold of that sum in a sandbox is worth. -/
noncomputable def Try.pinned : Pinned := { name := "qxb6617680a", sum := "73bf2513403937c6183fcb3a6da609742c234d7d4cb93f7a17d37d95a46e6665", checked := Try.checked }
namespace Rows
def none {H : Type} : Left H := { results := [], args := [] }

/-- 'zzlaws_root_b1.FnAddNewCutAnywhere': WHATEVER THE INPUT: true; the input reads as it did. -/
def fnAddNewCutAnywhereSpec : ChangeSpec := { name := "fnAddNewCutAnywhere", fn := fun _ => fun
  | [d1, d2, d3, d4] => { results := [.lit (.bool true)], args := [d1, d2, d3, d4] }
  | _ => none }
def fnAddNewCutAnywhereRow : OpenClaim := { program := "qxb6617680a", sum := "73bf2513403937c6183fcb3a6da609742c234d7d4cb93f7a17d37d95a46e6665", func := "example.com/dotwalk/dotwalk/zzlaws_root_b1.FnAddNewCutAnywhere", spec := "fnAddNewCutAnywhere", apart := false }
def FnAddNewCutAnywhereSaid : Prop := fnAddNewCutAnywhereRow.holds Try.pinned (OpenSpec.ofChange fnAddNewCutAnywhereSpec)

/-- ITS FALSE NEIGHBOUR: 'it returns false'. Refute it at one input. -/
def fnAddNewCutAnywhereWrong : ChangeSpec := { name := "fnAddNewCutAnywhere", fn := fun _ => fun
  | [d1, d2, d3, d4] => { results := [.lit (.bool false)], args := [d1, d2, d3, d4] }
  | _ => none }
def FnAddNewCutAnywhereWrongFalsely : Prop := fnAddNewCutAnywhereRow.holds Try.pinned (OpenSpec.ofChange fnAddNewCutAnywhereWrong)

/-- 'zzlaws_root_b1.FnAddNewEitherOrder': WHATEVER THE INPUT: true; the input reads as it did. -/
def fnAddNewEitherOrderSpec : ChangeSpec := { name := "fnAddNewEitherOrder", fn := fun _ => fun
  | [d1, d2, d3, d4] => { results := [.lit (.bool true)], args := [d1, d2, d3, d4] }
  | _ => none }
def fnAddNewEitherOrderRow : OpenClaim := { program := "qxb6617680a", sum := "73bf2513403937c6183fcb3a6da609742c234d7d4cb93f7a17d37d95a46e6665", func := "example.com/dotwalk/dotwalk/zzlaws_root_b1.FnAddNewEitherOrder", spec := "fnAddNewEitherOrder", apart := false }
def FnAddNewEitherOrderSaid : Prop := fnAddNewEitherOrderRow.holds Try.pinned (OpenSpec.ofChange fnAddNewEitherOrderSpec)

/-- ITS FALSE NEIGHBOUR: 'it returns false'. Refute it at one input. -/
def fnAddNewEitherOrderWrong : ChangeSpec := { name := "fnAddNewEitherOrder", fn := fun _ => fun
  | [d1, d2, d3, d4] => { results := [.lit (.bool false)], args := [d1, d2, d3, d4] }
  | _ => none }
def FnAddNewEitherOrderWrongFalsely : Prop := fnAddNewEitherOrderRow.holds Try.pinned (OpenSpec.ofChange fnAddNewEitherOrderWrong)

end Rows
end Go.Proofs.Qxb6617680a
