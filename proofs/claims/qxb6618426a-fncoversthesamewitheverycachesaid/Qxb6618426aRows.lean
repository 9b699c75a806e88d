/-
  No cell of these rows narrows 'for every input' (looked for: loops, veiled, ifaces, maps, wideKeys, modest, calm, conditions, laid).
  DERIVED. THE GIVEN ROWS OF THIS SEAT. 2 by the template 'for every input the law returns true; each argument reads behind the call as it read before'; 0 by the template 'total and deterministic' (their statements: Qxb6618426aTotals.lean).
  GIVEN WITH THE SEED: the statements are not yours to turn. If you find one false, say at which input.
  Laid BY PROGRAM, IN A SANDBOX (cutbox-rows.mjs): the forced cells as the released guide's own fill.sh prints them over the translation 5cdd0a24e7497539… (all of the seat's roots in one cut). By AI agents, Wed Nov 11 2026. No macro, syntax, notation, axiom, sorry.
-/
import Derived.Test.Qxb6618426aChecked
import GoSem.Claim
import GoSem.ClaimJoined
import GoSem.ClaimMapViews
import Derived.JoinedTies
import Derived.KernelRfl
namespace Go.Proofs.Qxb6618426a
/- THE CELL 'sum', in the pinned program and in every row, IS THE sha256 OF THE DUMP (.gsa) THAT Qxb6618426aProg.lean LOADS. Nothing in Lean hashes anything: it is a label: what it is worth is what the hold of that sum in a sandbox is worth. -/
noncomputable def Try.pinned : Pinned := { name := "qxb6618426a", sum := "5cdd0a24e74975392dab88c34e65083af1888a7216ec8445d02f247ff8a8706b", checked := Try.checked }
namespace Rows
def none {H : Type} : Left H := { results := [], args := [] }

/-- 'zzlaws_root_b1.FnCoversExactlyTheMatchingGrants': WHATEVER THE INPUT: true; the input reads as it did. -/
def fnCoversExactlyTheMatchingGrantsSpec : ChangeSpec := { name := "fnCoversExactlyTheMatchingGrants", fn := fun _ => fun
  | [d1, d2, d3, d4] => { results := [.lit (.bool true)], args := [d1, d2, d3, d4] }
  | _ => none }
def fnCoversExactlyTheMatchingGrantsRow : OpenClaim := { program := "qxb6618426a", sum := "5cdd0a24e74975392dab88c34e65083af1888a7216ec8445d02f247ff8a8706b", func := "example.com/clear/clear/zzlaws_root_b1.FnCoversExactlyTheMatchingGrants", spec := "fnCoversExactlyTheMatchingGrants", recurses := true, apart := false }
def FnCoversExactlyTheMatchingGrantsSaid : Prop := fnCoversExactlyTheMatchingGrantsRow.holds Try.pinned (OpenSpec.ofChange fnCoversExactlyTheMatchingGrantsSpec)

/-- ITS FALSE NEIGHBOUR: 'it returns false'. Refute it at one input. -/
def fnCoversExactlyTheMatchingGrantsWrong : ChangeSpec := { name := "fnCoversExactlyTheMatchingGrants", fn := fun _ => fun
  | [d1, d2, d3, d4] => { results := [.lit (.bool false)], args := [d1, d2, d3, d4] }
  | _ => none }
def FnCoversExactlyTheMatchingGrantsWrongFalsely : Prop := fnCoversExactlyTheMatchingGrantsRow.holds Try.pinned (OpenSpec.ofChange fnCoversExactlyTheMatchingGrantsWrong)

/-- 'zzlaws_root_b1.FnCoversTheSameWithEveryCache': WHATEVER THE INPUT: true; the input reads as it did. -/
def fnCoversTheSameWithEveryCacheSpec : ChangeSpec := { name := "fnCoversTheSameWithEveryCache", fn := fun _ => fun
  | [d1, d2, d3, d4, d5, d6, d7, d8, d9, d10] => { results := [.lit (.bool true)], args := [d1, d2, d3, d4, d5, d6, d7, d8, d9, d10] }
  | _ => none }
def fnCoversTheSameWithEveryCacheRow : OpenClaim := { program := "qxb6618426a", sum := "5cdd0a24e74975392dab88c34e65083af1888a7216ec8445d02f247ff8a8706b", func := "example.com/clear/clear/zzlaws_root_b1.FnCoversTheSameWithEveryCache", spec := "fnCoversTheSameWithEveryCache", recurses := true, apart := false }
def FnCoversTheSameWithEveryCacheSaid : Prop := fnCoversTheSameWithEveryCacheRow.holds Try.pinned (OpenSpec.ofChange fnCoversTheSameWithEveryCacheSpec)

/-- ITS FALSE NEIGHBOUR: 'it returns false'. Refute it at one input. -/
def fnCoversTheSameWithEveryCacheWrong : ChangeSpec := { name := "fnCoversTheSameWithEveryCache", fn := fun _ => fun
  | [d1, d2, d3, d4, d5, d6, d7, d8, d9, d10] => { results := [.lit (.bool false)], args := [d1, d2, d3, d4, d5, d6, d7, d8, d9, d10] }
  | _ => none }
def FnCoversTheSameWithEveryCacheWrongFalsely : Prop := fnCoversTheSameWithEveryCacheRow.holds Try.pinned (OpenSpec.ofChange fnCoversTheSameWithEveryCacheWrong)

end Rows
end Go.Proofs.Qxb6618426a
