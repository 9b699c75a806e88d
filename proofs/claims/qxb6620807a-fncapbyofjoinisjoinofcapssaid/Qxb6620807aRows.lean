/-
  No cell of these rows narrows 'for every input' (looked for: loops, veiled, ifaces, maps, wideKeys, modest, calm, conditions, laid).
  DERIVED. THE GIVEN ROWS OF THIS SEAT. 5 by the template 'for every input the law returns true; each argument reads behind the call as it read before'; 0 by the template 'total and deterministic' (their statements: Qxb6620807aTotals.lean).
  GIVEN WITH THE SEED: the statements are not yours to turn. If you find one false, say at which input.
  Laid BY PROGRAM, IN A SANDBOX (cutbox-rows.mjs): the forced cells as the released guide's own fill.sh prints them over the translation 528f3a1078631fce… (all of the seat's roots in one cut). By AI agents, Wed Nov 11 2026. No macro, syntax, notation, axiom, sorry.
-/
import Derived.Test.Qxb6620807aChecked
import GoSem.Claim
import GoSem.ClaimJoined
import GoSem.ClaimMapViews
import Derived.JoinedTies
import Derived.KernelRfl
namespace Go.Proofs.Qxb6620807a
/- THE CELL 'sum', in the pinned program and in every row, IS THE sha256 OF THE DUMP (.gsa) THAT Qxb6620807aProg.lean LOADS. Nothing in Lean hashes anything: it is a label: what it is worth is what the hold of that sum in a sandbox is worth. -/
noncomputable def Try.pinned : Pinned := { name := "qxb6620807a", sum := "528f3a1078631fcecc935f86150c534b1b98efacbd2e01b43f6c2d2843092c62", checked := Try.checked }
namespace Rows
def none {H : Type} : Left H := { results := [], args := [] }

/-- 'zzlaws_internal_causal_b1.FnJoinIsSetUnion': WHATEVER THE INPUT: true; the input reads as it did. -/
def fnJoinIsSetUnionSpec : ChangeSpec := { name := "fnJoinIsSetUnion", fn := fun _ => fun
  | [d1, d2, d3, d4, d5, d6] => { results := [.lit (.bool true)], args := [d1, d2, d3, d4, d5, d6] }
  | _ => none }
def fnJoinIsSetUnionRow : OpenClaim := { program := "qxb6620807a", sum := "528f3a1078631fcecc935f86150c534b1b98efacbd2e01b43f6c2d2843092c62", func := "example.com/ringfold/ringfold/zzlaws_internal_causal_b1.FnJoinIsSetUnion", spec := "fnJoinIsSetUnion", inPlace := ["internal/bytealg.abigen_runtime_cmpstring"], apart := false }
def FnJoinIsSetUnionSaid : Prop := fnJoinIsSetUnionRow.holds Try.pinned (OpenSpec.ofChange fnJoinIsSetUnionSpec)

/-- ITS FALSE NEIGHBOUR: 'it returns false'. Refute it at one input. -/
def fnJoinIsSetUnionWrong : ChangeSpec := { name := "fnJoinIsSetUnion", fn := fun _ => fun
  | [d1, d2, d3, d4, d5, d6] => { results := [.lit (.bool false)], args := [d1, d2, d3, d4, d5, d6] }
  | _ => none }
def FnJoinIsSetUnionWrongFalsely : Prop := fnJoinIsSetUnionRow.holds Try.pinned (OpenSpec.ofChange fnJoinIsSetUnionWrong)

/-- 'zzlaws_internal_causal_b1.FnJoinAnyOrderAnyGrouping': WHATEVER THE INPUT: true; the input reads as it did. -/
def fnJoinAnyOrderAnyGroupingSpec : ChangeSpec := { name := "fnJoinAnyOrderAnyGrouping", fn := fun _ => fun
  | [d1, d2, d3, d4, d5, d6, d7, d8, d9] => { results := [.lit (.bool true)], args := [d1, d2, d3, d4, d5, d6, d7, d8, d9] }
  | _ => none }
def fnJoinAnyOrderAnyGroupingRow : OpenClaim := { program := "qxb6620807a", sum := "528f3a1078631fcecc935f86150c534b1b98efacbd2e01b43f6c2d2843092c62", func := "example.com/ringfold/ringfold/zzlaws_internal_causal_b1.FnJoinAnyOrderAnyGrouping", spec := "fnJoinAnyOrderAnyGrouping", inPlace := ["internal/bytealg.abigen_runtime_cmpstring"], apart := false }
def FnJoinAnyOrderAnyGroupingSaid : Prop := fnJoinAnyOrderAnyGroupingRow.holds Try.pinned (OpenSpec.ofChange fnJoinAnyOrderAnyGroupingSpec)

/-- ITS FALSE NEIGHBOUR: 'it returns false'. Refute it at one input. -/
def fnJoinAnyOrderAnyGroupingWrong : ChangeSpec := { name := "fnJoinAnyOrderAnyGrouping", fn := fun _ => fun
  | [d1, d2, d3, d4, d5, d6, d7, d8, d9] => { results := [.lit (.bool false)], args := [d1, d2, d3, d4, d5, d6, d7, d8, d9] }
  | _ => none }
def FnJoinAnyOrderAnyGroupingWrongFalsely : Prop := fnJoinAnyOrderAnyGroupingRow.holds Try.pinned (OpenSpec.ofChange fnJoinAnyOrderAnyGroupingWrong)

/-- 'zzlaws_internal_causal_b1.FnCapByIsCutAtOthersHighest': WHATEVER THE INPUT: true; the input reads as it did. -/
def fnCapByIsCutAtOthersHighestSpec : ChangeSpec := { name := "fnCapByIsCutAtOthersHighest", fn := fun _ => fun
  | [d1, d2, d3, d4, d5, d6] => { results := [.lit (.bool true)], args := [d1, d2, d3, d4, d5, d6] }
  | _ => none }
def fnCapByIsCutAtOthersHighestRow : OpenClaim := { program := "qxb6620807a", sum := "528f3a1078631fcecc935f86150c534b1b98efacbd2e01b43f6c2d2843092c62", func := "example.com/ringfold/ringfold/zzlaws_internal_causal_b1.FnCapByIsCutAtOthersHighest", spec := "fnCapByIsCutAtOthersHighest", apart := false }
def FnCapByIsCutAtOthersHighestSaid : Prop := fnCapByIsCutAtOthersHighestRow.holds Try.pinned (OpenSpec.ofChange fnCapByIsCutAtOthersHighestSpec)

/-- ITS FALSE NEIGHBOUR: 'it returns false'. Refute it at one input. -/
def fnCapByIsCutAtOthersHighestWrong : ChangeSpec := { name := "fnCapByIsCutAtOthersHighest", fn := fun _ => fun
  | [d1, d2, d3, d4, d5, d6] => { results := [.lit (.bool false)], args := [d1, d2, d3, d4, d5, d6] }
  | _ => none }
def FnCapByIsCutAtOthersHighestWrongFalsely : Prop := fnCapByIsCutAtOthersHighestRow.holds Try.pinned (OpenSpec.ofChange fnCapByIsCutAtOthersHighestWrong)

/-- 'zzlaws_internal_causal_b1.FnCapByOfJoinIsJoinOfCaps': WHATEVER THE INPUT: true; the input reads as it did. -/
def fnCapByOfJoinIsJoinOfCapsSpec : ChangeSpec := { name := "fnCapByOfJoinIsJoinOfCaps", fn := fun _ => fun
  | [d1, d2, d3, d4, d5, d6, d7, d8, d9] => { results := [.lit (.bool true)], args := [d1, d2, d3, d4, d5, d6, d7, d8, d9] }
  | _ => none }
def fnCapByOfJoinIsJoinOfCapsRow : OpenClaim := { program := "qxb6620807a", sum := "528f3a1078631fcecc935f86150c534b1b98efacbd2e01b43f6c2d2843092c62", func := "example.com/ringfold/ringfold/zzlaws_internal_causal_b1.FnCapByOfJoinIsJoinOfCaps", spec := "fnCapByOfJoinIsJoinOfCaps", inPlace := ["internal/bytealg.abigen_runtime_cmpstring"], apart := false }
def FnCapByOfJoinIsJoinOfCapsSaid : Prop := fnCapByOfJoinIsJoinOfCapsRow.holds Try.pinned (OpenSpec.ofChange fnCapByOfJoinIsJoinOfCapsSpec)

/-- ITS FALSE NEIGHBOUR: 'it returns false'. Refute it at one input. -/
def fnCapByOfJoinIsJoinOfCapsWrong : ChangeSpec := { name := "fnCapByOfJoinIsJoinOfCaps", fn := fun _ => fun
  | [d1, d2, d3, d4, d5, d6, d7, d8, d9] => { results := [.lit (.bool false)], args := [d1, d2, d3, d4, d5, d6, d7, d8, d9] }
  | _ => none }
def FnCapByOfJoinIsJoinOfCapsWrongFalsely : Prop := fnCapByOfJoinIsJoinOfCapsRow.holds Try.pinned (OpenSpec.ofChange fnCapByOfJoinIsJoinOfCapsWrong)

/-- 'zzlaws_internal_causal_b1.FnRunJoinIsSetUnion': WHATEVER THE INPUT: true; the input reads as it did. -/
def fnRunJoinIsSetUnionSpec : ChangeSpec := { name := "fnRunJoinIsSetUnion", fn := fun _ => fun
  | [d1, d2, d3, d4, d5, d6] => { results := [.lit (.bool true)], args := [d1, d2, d3, d4, d5, d6] }
  | _ => none }
def fnRunJoinIsSetUnionRow : OpenClaim := { program := "qxb6620807a", sum := "528f3a1078631fcecc935f86150c534b1b98efacbd2e01b43f6c2d2843092c62", func := "example.com/ringfold/ringfold/zzlaws_internal_causal_b1.FnRunJoinIsSetUnion", spec := "fnRunJoinIsSetUnion", apart := false }
def FnRunJoinIsSetUnionSaid : Prop := fnRunJoinIsSetUnionRow.holds Try.pinned (OpenSpec.ofChange fnRunJoinIsSetUnionSpec)

/-- ITS FALSE NEIGHBOUR: 'it returns false'. Refute it at one input. -/
def fnRunJoinIsSetUnionWrong : ChangeSpec := { name := "fnRunJoinIsSetUnion", fn := fun _ => fun
  | [d1, d2, d3, d4, d5, d6] => { results := [.lit (.bool false)], args := [d1, d2, d3, d4, d5, d6] }
  | _ => none }
def FnRunJoinIsSetUnionWrongFalsely : Prop := fnRunJoinIsSetUnionRow.holds Try.pinned (OpenSpec.ofChange fnRunJoinIsSetUnionWrong)

end Rows
end Go.Proofs.Qxb6620807a
