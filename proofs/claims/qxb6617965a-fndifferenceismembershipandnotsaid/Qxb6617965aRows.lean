/-
  No cell of these rows narrows 'for every input' (looked for: loops, veiled, ifaces, maps, wideKeys, modest, calm, conditions, laid).
  DERIVED. THE GIVEN ROWS OF THIS SEAT. 4 by the template 'for every input the law returns true; each argument reads behind the call as it read before'; 0 by the template 'total and deterministic' (their statements: Qxb6617965aTotals.lean).
  GIVEN WITH THE SEED: the statements are not yours to turn. If you find one false, say at which input.
  Laid BY PROGRAM, IN A SANDBOX (cutbox-rows.mjs): the forced cells as the released guide's own fill.sh prints them over the translation 8c0c66109f29803e… (all of the seat's roots in one cut). By AI agents, Wed Nov 11 2026. No macro, syntax, notation, axiom, sorry.
-/
import Derived.Test.Qxb6617965aChecked
import GoSem.Claim
import GoSem.ClaimJoined
import GoSem.ClaimMapViews
import Derived.JoinedTies
import Derived.KernelRfl
namespace Go.Proofs.Qxb6617965a
/- THE CELL 'sum', in the pinned program and in every row, IS THE sha256 OF THE DUMP (.gsa) THAT Qxb6617965aProg.lean LOADS. Nothing in Lean hashes anything: it is a label: what it is worth is what the hold of that sum in a sandbox is worth. -/
noncomputable def Try.pinned : Pinned := { name := "qxb6617965a", sum := "8c0c66109f29803e9a129645480bff1637463c5783938c7091948498d5285df3", checked := Try.checked }
namespace Rows
def none {H : Type} : Left H := { results := [], args := [] }

/-- 'zzlaws_internal_cpuset_b1.FnIntersectionIsMembershipAnd': WHATEVER THE INPUT: true; the input reads as it did. -/
def fnIntersectionIsMembershipAndSpec : ChangeSpec := { name := "fnIntersectionIsMembershipAnd", fn := fun _ => fun
  | [d1, d2] => { results := [.lit (.bool true)], args := [d1, d2] }
  | _ => none }
def fnIntersectionIsMembershipAndRow : OpenClaim := { program := "qxb6617965a", sum := "8c0c66109f29803e9a129645480bff1637463c5783938c7091948498d5285df3", func := "example.com/coreweir/coreweir/zzlaws_internal_cpuset_b1.FnIntersectionIsMembershipAnd", spec := "fnIntersectionIsMembershipAnd", apart := false }
def FnIntersectionIsMembershipAndSaid : Prop := fnIntersectionIsMembershipAndRow.holds Try.pinned (OpenSpec.ofChange fnIntersectionIsMembershipAndSpec)

/-- ITS FALSE NEIGHBOUR: 'it returns false'. Refute it at one input. -/
def fnIntersectionIsMembershipAndWrong : ChangeSpec := { name := "fnIntersectionIsMembershipAnd", fn := fun _ => fun
  | [d1, d2] => { results := [.lit (.bool false)], args := [d1, d2] }
  | _ => none }
def FnIntersectionIsMembershipAndWrongFalsely : Prop := fnIntersectionIsMembershipAndRow.holds Try.pinned (OpenSpec.ofChange fnIntersectionIsMembershipAndWrong)

/-- 'zzlaws_internal_cpuset_b1.FnDifferenceIsMembershipAndNot': WHATEVER THE INPUT: true; the input reads as it did. -/
def fnDifferenceIsMembershipAndNotSpec : ChangeSpec := { name := "fnDifferenceIsMembershipAndNot", fn := fun _ => fun
  | [d1, d2] => { results := [.lit (.bool true)], args := [d1, d2] }
  | _ => none }
def fnDifferenceIsMembershipAndNotRow : OpenClaim := { program := "qxb6617965a", sum := "8c0c66109f29803e9a129645480bff1637463c5783938c7091948498d5285df3", func := "example.com/coreweir/coreweir/zzlaws_internal_cpuset_b1.FnDifferenceIsMembershipAndNot", spec := "fnDifferenceIsMembershipAndNot", apart := false }
def FnDifferenceIsMembershipAndNotSaid : Prop := fnDifferenceIsMembershipAndNotRow.holds Try.pinned (OpenSpec.ofChange fnDifferenceIsMembershipAndNotSpec)

/-- ITS FALSE NEIGHBOUR: 'it returns false'. Refute it at one input. -/
def fnDifferenceIsMembershipAndNotWrong : ChangeSpec := { name := "fnDifferenceIsMembershipAndNot", fn := fun _ => fun
  | [d1, d2] => { results := [.lit (.bool false)], args := [d1, d2] }
  | _ => none }
def FnDifferenceIsMembershipAndNotWrongFalsely : Prop := fnDifferenceIsMembershipAndNotRow.holds Try.pinned (OpenSpec.ofChange fnDifferenceIsMembershipAndNotWrong)

/-- 'zzlaws_internal_cpuset_b1.FnIntersectionAndDifferenceSplitS': WHATEVER THE INPUT: true; the input reads as it did. -/
def fnIntersectionAndDifferenceSplitSSpec : ChangeSpec := { name := "fnIntersectionAndDifferenceSplitS", fn := fun _ => fun
  | [d1, d2] => { results := [.lit (.bool true)], args := [d1, d2] }
  | _ => none }
def fnIntersectionAndDifferenceSplitSRow : OpenClaim := { program := "qxb6617965a", sum := "8c0c66109f29803e9a129645480bff1637463c5783938c7091948498d5285df3", func := "example.com/coreweir/coreweir/zzlaws_internal_cpuset_b1.FnIntersectionAndDifferenceSplitS", spec := "fnIntersectionAndDifferenceSplitS", apart := false }
def FnIntersectionAndDifferenceSplitSSaid : Prop := fnIntersectionAndDifferenceSplitSRow.holds Try.pinned (OpenSpec.ofChange fnIntersectionAndDifferenceSplitSSpec)

/-- ITS FALSE NEIGHBOUR: 'it returns false'. Refute it at one input. -/
def fnIntersectionAndDifferenceSplitSWrong : ChangeSpec := { name := "fnIntersectionAndDifferenceSplitS", fn := fun _ => fun
  | [d1, d2] => { results := [.lit (.bool false)], args := [d1, d2] }
  | _ => none }
def FnIntersectionAndDifferenceSplitSWrongFalsely : Prop := fnIntersectionAndDifferenceSplitSRow.holds Try.pinned (OpenSpec.ofChange fnIntersectionAndDifferenceSplitSWrong)

/-- 'zzlaws_internal_cpuset_b1.FnIntersectionCommutesAndIsDoubleDifference': WHATEVER THE INPUT: true; the input reads as it did. -/
def fnIntersectionCommutesAndIsDoubleDifferenceSpec : ChangeSpec := { name := "fnIntersectionCommutesAndIsDoubleDifference", fn := fun _ => fun
  | [d1, d2] => { results := [.lit (.bool true)], args := [d1, d2] }
  | _ => none }
def fnIntersectionCommutesAndIsDoubleDifferenceRow : OpenClaim := { program := "qxb6617965a", sum := "8c0c66109f29803e9a129645480bff1637463c5783938c7091948498d5285df3", func := "example.com/coreweir/coreweir/zzlaws_internal_cpuset_b1.FnIntersectionCommutesAndIsDoubleDifference", spec := "fnIntersectionCommutesAndIsDoubleDifference", apart := false }
def FnIntersectionCommutesAndIsDoubleDifferenceSaid : Prop := fnIntersectionCommutesAndIsDoubleDifferenceRow.holds Try.pinned (OpenSpec.ofChange fnIntersectionCommutesAndIsDoubleDifferenceSpec)

/-- ITS FALSE NEIGHBOUR: 'it returns false'. Refute it at one input. -/
def fnIntersectionCommutesAndIsDoubleDifferenceWrong : ChangeSpec := { name := "fnIntersectionCommutesAndIsDoubleDifference", fn := fun _ => fun
  | [d1, d2] => { results := [.lit (.bool false)], args := [d1, d2] }
  | _ => none }
def FnIntersectionCommutesAndIsDoubleDifferenceWrongFalsely : Prop := fnIntersectionCommutesAndIsDoubleDifferenceRow.holds Try.pinned (OpenSpec.ofChange fnIntersectionCommutesAndIsDoubleDifferenceWrong)

end Rows
end Go.Proofs.Qxb6617965a
