/-
  No cell of these rows narrows 'for every input' (looked for: loops, veiled, ifaces, maps, wideKeys, modest, calm, conditions, laid).
  DERIVED. THE GIVEN ROWS OF THIS SEAT. 1 by the template 'for every input the law returns true; each argument reads behind the call as it read before'; 0 by the template 'total and deterministic' (their statements: Qxb6623508aTotals.lean).
  GIVEN WITH THE SEED: the statements are not yours to turn. If you find one false, say at which input.
  Laid BY PROGRAM, IN A SANDBOX (cutbox-rows.mjs): the forced cells as the released guide's own fill.sh prints them over the translation 7dc6be3f80356845… (all of the seat's roots in one cut). By AI agents, Wed Nov 11 2026. No macro, syntax, notation, axiom, sorry.
-/
import Derived.Test.Qxb6623508aChecked
import GoSem.Claim
import GoSem.ClaimJoined
import GoSem.ClaimMapViews
import Derived.JoinedTies
import Derived.KernelRfl
namespace Go.Proofs.Qxb6623508a
/- THE CELL 'sum', in the pinned program and in every row, IS THE sha256 OF THE DUMP (.gsa) THAT Qxb6623508aProg.lean LOADS. Nothing in Lean hashes anything: it is a label: what it is worth is what the hold of that sum in a sandbox is worth. -/
noncomputable def Try.pinned : Pinned := { name := "qxb6623508a", sum := "7dc6be3f803568452034f8621b175e8b91575ab1f68967210f9ce4e4510e2e56", checked := Try.checked }
namespace Rows
def none {H : Type} : Left H := { results := [], args := [] }

/-- 'zzlaws_root_b1.FnProtectedAncestorsSplicesRelidTwiceLast': WHATEVER THE INPUT: true; the input reads as it did. -/
def fnProtectedAncestorsSplicesRelidTwiceLastSpec : ChangeSpec := { name := "fnProtectedAncestorsSplicesRelidTwiceLast", fn := fun _ => fun
  | [d1, d2] => { results := [.lit (.bool true)], args := [d1, d2] }
  | _ => none }
def fnProtectedAncestorsSplicesRelidTwiceLastRow : OpenClaim := { program := "qxb6623508a", sum := "7dc6be3f803568452034f8621b175e8b91575ab1f68967210f9ce4e4510e2e56", func := "example.com/enclose/enclose/zzlaws_root_b1.FnProtectedAncestorsSplicesRelidTwiceLast", spec := "fnProtectedAncestorsSplicesRelidTwiceLast", apart := false }
def FnProtectedAncestorsSplicesRelidTwiceLastSaid : Prop := fnProtectedAncestorsSplicesRelidTwiceLastRow.holds Try.pinned (OpenSpec.ofChange fnProtectedAncestorsSplicesRelidTwiceLastSpec)

/-- ITS FALSE NEIGHBOUR: 'it returns false'. Refute it at one input. -/
def fnProtectedAncestorsSplicesRelidTwiceLastWrong : ChangeSpec := { name := "fnProtectedAncestorsSplicesRelidTwiceLast", fn := fun _ => fun
  | [d1, d2] => { results := [.lit (.bool false)], args := [d1, d2] }
  | _ => none }
def FnProtectedAncestorsSplicesRelidTwiceLastWrongFalsely : Prop := fnProtectedAncestorsSplicesRelidTwiceLastRow.holds Try.pinned (OpenSpec.ofChange fnProtectedAncestorsSplicesRelidTwiceLastWrong)

end Rows
end Go.Proofs.Qxb6623508a
