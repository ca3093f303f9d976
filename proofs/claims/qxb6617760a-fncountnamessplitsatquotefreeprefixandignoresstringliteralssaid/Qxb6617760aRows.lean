/-
  No cell of these rows narrows 'for every input' (looked for: loops, veiled, ifaces, maps, wideKeys, modest, calm, conditions, laid).
  DERIVED. THE GIVEN ROWS OF THIS SEAT. 1 by the template 'for every input the law returns true; each argument reads behind the call as it read before'; 0 by the template 'total and deterministic' (their statements: Qxb6617760aTotals.lean).
  GIVEN WITH THE SEED: the statements are not yours to turn. If you find one false, say at which input.
  Laid BY PROGRAM, IN A SANDBOX (cutbox-rows.mjs): the forced cells as the released guide's own fill.sh prints them over the translation 81621bd4070644e9… (all of the seat's roots in one cut). By AI agents, Wed Nov 11 2026. No macro, syntax, notation, axiom, sorry.
-/
import Derived.Test.Qxb6617760aChecked
import GoSem.Claim
import GoSem.ClaimJoined
import GoSem.ClaimMapViews
import Derived.JoinedTies
import Derived.KernelRfl
namespace Go.Proofs.Qxb6617760a
/- THE CELL 'sum', in the pinned program and in every row, IS THE sha256 OF THE DUMP (.gsa) THAT Qxb6617760aProg.lean LOADS. Nothing in Lean hashes anything: it is a label: what it is worth is what the hold of that sum in a sandbox is worth. -/
noncomputable def Try.pinned : Pinned := { name := "qxb6617760a", sum := "81621bd4070644e91bdac5774c60cfd39843184cacf42c972418e0793975a1c9", checked := Try.checked }
namespace Rows
def none {H : Type} : Left H := { results := [], args := [] }

/-- 'zzlaws_jose_b1.FnCountNamesSplitsAtQuoteFreePrefixAndIgnoresStringLiterals': WHATEVER THE INPUT: true; the input reads as it did. -/
def fnCountNamesSplitsAtQuoteFreePrefixAndIgnoresStringLiteralsSpec : ChangeSpec := { name := "fnCountNamesSplitsAtQuoteFreePrefixAndIgnoresStringLiterals", fn := fun _ => fun
  | [d1, d2, d3] => { results := [.lit (.bool true)], args := [d1, d2, d3] }
  | _ => none }
def fnCountNamesSplitsAtQuoteFreePrefixAndIgnoresStringLiteralsRow : OpenClaim := { program := "qxb6617760a", sum := "81621bd4070644e91bdac5774c60cfd39843184cacf42c972418e0793975a1c9", func := "example.com/tokexd/tokexd/zzlaws_jose_b1.FnCountNamesSplitsAtQuoteFreePrefixAndIgnoresStringLiterals", spec := "fnCountNamesSplitsAtQuoteFreePrefixAndIgnoresStringLiterals", apart := false }
def FnCountNamesSplitsAtQuoteFreePrefixAndIgnoresStringLiteralsSaid : Prop := fnCountNamesSplitsAtQuoteFreePrefixAndIgnoresStringLiteralsRow.holds Try.pinned (OpenSpec.ofChange fnCountNamesSplitsAtQuoteFreePrefixAndIgnoresStringLiteralsSpec)

/-- ITS FALSE NEIGHBOUR: 'it returns false'. Refute it at one input. -/
def fnCountNamesSplitsAtQuoteFreePrefixAndIgnoresStringLiteralsWrong : ChangeSpec := { name := "fnCountNamesSplitsAtQuoteFreePrefixAndIgnoresStringLiterals", fn := fun _ => fun
  | [d1, d2, d3] => { results := [.lit (.bool false)], args := [d1, d2, d3] }
  | _ => none }
def FnCountNamesSplitsAtQuoteFreePrefixAndIgnoresStringLiteralsWrongFalsely : Prop := fnCountNamesSplitsAtQuoteFreePrefixAndIgnoresStringLiteralsRow.holds Try.pinned (OpenSpec.ofChange fnCountNamesSplitsAtQuoteFreePrefixAndIgnoresStringLiteralsWrong)

end Rows
end Go.Proofs.Qxb6617760a
