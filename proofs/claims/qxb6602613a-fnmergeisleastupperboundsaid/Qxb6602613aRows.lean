/-
  No cell of these rows narrows 'for every input' (looked for: loops, veiled, ifaces, maps, wideKeys, modest, calm, conditions, laid).
  DERIVED. THE GIVEN ROWS OF THIS SEAT. 6 by the template 'for every input the law returns true; each argument reads behind the call as it read before'; 0 by the template 'total and deterministic' (their statements: Qxb6602613aTotals.lean).
  GIVEN WITH THE SEED: the statements are not yours to turn. If you find one false, say at which input.
  Laid BY PROGRAM, IN A SANDBOX (cutbox-rows.mjs): the forced cells as the released guide's own fill.sh prints them over the translation 27f47bb1b4c017f9… (all of the seat's roots in one cut). By AI agents, Wed Nov 11 2026. No macro, syntax, notation, axiom, sorry.
-/
import Derived.Test.Qxb6602613aChecked
import GoSem.Claim
import GoSem.ClaimJoined
import GoSem.ClaimMapViews
import Derived.JoinedTies
import Derived.KernelRfl
namespace Go.Proofs.Qxb6602613a
/- THE CELL 'sum', in the pinned program and in every row, IS THE sha256 OF THE DUMP (.gsa) THAT Qxb6602613aProg.lean LOADS. Nothing in Lean hashes anything: it is a label: what it is worth is what the hold of that sum in a sandbox is worth. -/
noncomputable def Try.pinned : Pinned := { name := "qxb6602613a", sum := "27f47bb1b4c017f91bd7aecae9d27a7ce770ac301f1156ea7fd12b68375b52d7", checked := Try.checked }
namespace Rows
def none {H : Type} : Left H := { results := [], args := [] }

/-- 'zzlaws_pkg_version_b1.FnUnionIsPointwiseMinimum': WHATEVER THE INPUT: true; the input reads as it did. -/
def fnUnionIsPointwiseMinimumSpec : ChangeSpec := { name := "fnUnionIsPointwiseMinimum", fn := fun _ => fun
  | [d1, d2, d3, d4] => { results := [.lit (.bool true)], args := [d1, d2, d3, d4] }
  | _ => none }
def fnUnionIsPointwiseMinimumRow : OpenClaim := { program := "qxb6602613a", sum := "27f47bb1b4c017f91bd7aecae9d27a7ce770ac301f1156ea7fd12b68375b52d7", func := "example.com/reconverge/reconverge/zzlaws_pkg_version_b1.FnUnionIsPointwiseMinimum", spec := "fnUnionIsPointwiseMinimum", plainKeys := false, apart := false }
def FnUnionIsPointwiseMinimumSaid : Prop := fnUnionIsPointwiseMinimumRow.holds Try.pinned (OpenSpec.ofChange fnUnionIsPointwiseMinimumSpec)

/-- ITS FALSE NEIGHBOUR: 'it returns false'. Refute it at one input. -/
def fnUnionIsPointwiseMinimumWrong : ChangeSpec := { name := "fnUnionIsPointwiseMinimum", fn := fun _ => fun
  | [d1, d2, d3, d4] => { results := [.lit (.bool false)], args := [d1, d2, d3, d4] }
  | _ => none }
def FnUnionIsPointwiseMinimumWrongFalsely : Prop := fnUnionIsPointwiseMinimumRow.holds Try.pinned (OpenSpec.ofChange fnUnionIsPointwiseMinimumWrong)

/-- 'zzlaws_pkg_version_b1.FnUnionIncludedExactlyWhenEitherIs': WHATEVER THE INPUT: true; the input reads as it did. -/
def fnUnionIncludedExactlyWhenEitherIsSpec : ChangeSpec := { name := "fnUnionIncludedExactlyWhenEitherIs", fn := fun _ => fun
  | [d1, d2, d3, d4, d5, d6] => { results := [.lit (.bool true)], args := [d1, d2, d3, d4, d5, d6] }
  | _ => none }
def fnUnionIncludedExactlyWhenEitherIsRow : OpenClaim := { program := "qxb6602613a", sum := "27f47bb1b4c017f91bd7aecae9d27a7ce770ac301f1156ea7fd12b68375b52d7", func := "example.com/reconverge/reconverge/zzlaws_pkg_version_b1.FnUnionIncludedExactlyWhenEitherIs", spec := "fnUnionIncludedExactlyWhenEitherIs", plainKeys := false, apart := false }
def FnUnionIncludedExactlyWhenEitherIsSaid : Prop := fnUnionIncludedExactlyWhenEitherIsRow.holds Try.pinned (OpenSpec.ofChange fnUnionIncludedExactlyWhenEitherIsSpec)

/-- ITS FALSE NEIGHBOUR: 'it returns false'. Refute it at one input. -/
def fnUnionIncludedExactlyWhenEitherIsWrong : ChangeSpec := { name := "fnUnionIncludedExactlyWhenEitherIs", fn := fun _ => fun
  | [d1, d2, d3, d4, d5, d6] => { results := [.lit (.bool false)], args := [d1, d2, d3, d4, d5, d6] }
  | _ => none }
def FnUnionIncludedExactlyWhenEitherIsWrongFalsely : Prop := fnUnionIncludedExactlyWhenEitherIsRow.holds Try.pinned (OpenSpec.ofChange fnUnionIncludedExactlyWhenEitherIsWrong)

/-- 'zzlaws_pkg_version_b1.FnUnionCommutativeIdempotentAssociative': WHATEVER THE INPUT: true; the input reads as it did. -/
def fnUnionCommutativeIdempotentAssociativeSpec : ChangeSpec := { name := "fnUnionCommutativeIdempotentAssociative", fn := fun _ => fun
  | [d1, d2, d3, d4, d5, d6] => { results := [.lit (.bool true)], args := [d1, d2, d3, d4, d5, d6] }
  | _ => none }
def fnUnionCommutativeIdempotentAssociativeRow : OpenClaim := { program := "qxb6602613a", sum := "27f47bb1b4c017f91bd7aecae9d27a7ce770ac301f1156ea7fd12b68375b52d7", func := "example.com/reconverge/reconverge/zzlaws_pkg_version_b1.FnUnionCommutativeIdempotentAssociative", spec := "fnUnionCommutativeIdempotentAssociative", plainKeys := false, apart := false }
def FnUnionCommutativeIdempotentAssociativeSaid : Prop := fnUnionCommutativeIdempotentAssociativeRow.holds Try.pinned (OpenSpec.ofChange fnUnionCommutativeIdempotentAssociativeSpec)

/-- ITS FALSE NEIGHBOUR: 'it returns false'. Refute it at one input. -/
def fnUnionCommutativeIdempotentAssociativeWrong : ChangeSpec := { name := "fnUnionCommutativeIdempotentAssociative", fn := fun _ => fun
  | [d1, d2, d3, d4, d5, d6] => { results := [.lit (.bool false)], args := [d1, d2, d3, d4, d5, d6] }
  | _ => none }
def FnUnionCommutativeIdempotentAssociativeWrongFalsely : Prop := fnUnionCommutativeIdempotentAssociativeRow.holds Try.pinned (OpenSpec.ofChange fnUnionCommutativeIdempotentAssociativeWrong)

/-- 'zzlaws_pkg_version_b1.FnMergeIsLeastUpperBound': WHATEVER THE INPUT: true; the input reads as it did. -/
def fnMergeIsLeastUpperBoundSpec : ChangeSpec := { name := "fnMergeIsLeastUpperBound", fn := fun _ => fun
  | [d1, d2, d3, d4, d5, d6] => { results := [.lit (.bool true)], args := [d1, d2, d3, d4, d5, d6] }
  | _ => none }
def fnMergeIsLeastUpperBoundRow : OpenClaim := { program := "qxb6602613a", sum := "27f47bb1b4c017f91bd7aecae9d27a7ce770ac301f1156ea7fd12b68375b52d7", func := "example.com/reconverge/reconverge/zzlaws_pkg_version_b1.FnMergeIsLeastUpperBound", spec := "fnMergeIsLeastUpperBound", plainKeys := false, apart := false }
def FnMergeIsLeastUpperBoundSaid : Prop := fnMergeIsLeastUpperBoundRow.holds Try.pinned (OpenSpec.ofChange fnMergeIsLeastUpperBoundSpec)

/-- ITS FALSE NEIGHBOUR: 'it returns false'. Refute it at one input. -/
def fnMergeIsLeastUpperBoundWrong : ChangeSpec := { name := "fnMergeIsLeastUpperBound", fn := fun _ => fun
  | [d1, d2, d3, d4, d5, d6] => { results := [.lit (.bool false)], args := [d1, d2, d3, d4, d5, d6] }
  | _ => none }
def FnMergeIsLeastUpperBoundWrongFalsely : Prop := fnMergeIsLeastUpperBoundRow.holds Try.pinned (OpenSpec.ofChange fnMergeIsLeastUpperBoundWrong)

/-- 'zzlaws_pkg_version_b1.FnCompareMirrorsAndIsReflexive': WHATEVER THE INPUT: true; the input reads as it did. -/
def fnCompareMirrorsAndIsReflexiveSpec : ChangeSpec := { name := "fnCompareMirrorsAndIsReflexive", fn := fun _ => fun
  | [d1, d2, d3, d4] => { results := [.lit (.bool true)], args := [d1, d2, d3, d4] }
  | _ => none }
def fnCompareMirrorsAndIsReflexiveRow : OpenClaim := { program := "qxb6602613a", sum := "27f47bb1b4c017f91bd7aecae9d27a7ce770ac301f1156ea7fd12b68375b52d7", func := "example.com/reconverge/reconverge/zzlaws_pkg_version_b1.FnCompareMirrorsAndIsReflexive", spec := "fnCompareMirrorsAndIsReflexive", plainKeys := false, apart := false }
def FnCompareMirrorsAndIsReflexiveSaid : Prop := fnCompareMirrorsAndIsReflexiveRow.holds Try.pinned (OpenSpec.ofChange fnCompareMirrorsAndIsReflexiveSpec)

/-- ITS FALSE NEIGHBOUR: 'it returns false'. Refute it at one input. -/
def fnCompareMirrorsAndIsReflexiveWrong : ChangeSpec := { name := "fnCompareMirrorsAndIsReflexive", fn := fun _ => fun
  | [d1, d2, d3, d4] => { results := [.lit (.bool false)], args := [d1, d2, d3, d4] }
  | _ => none }
def FnCompareMirrorsAndIsReflexiveWrongFalsely : Prop := fnCompareMirrorsAndIsReflexiveRow.holds Try.pinned (OpenSpec.ofChange fnCompareMirrorsAndIsReflexiveWrong)

/-- 'zzlaws_pkg_version_b1.FnCompareIsTransitive': WHATEVER THE INPUT: true; the input reads as it did. -/
def fnCompareIsTransitiveSpec : ChangeSpec := { name := "fnCompareIsTransitive", fn := fun _ => fun
  | [d1, d2, d3, d4, d5, d6] => { results := [.lit (.bool true)], args := [d1, d2, d3, d4, d5, d6] }
  | _ => none }
def fnCompareIsTransitiveRow : OpenClaim := { program := "qxb6602613a", sum := "27f47bb1b4c017f91bd7aecae9d27a7ce770ac301f1156ea7fd12b68375b52d7", func := "example.com/reconverge/reconverge/zzlaws_pkg_version_b1.FnCompareIsTransitive", spec := "fnCompareIsTransitive", plainKeys := false, apart := false }
def FnCompareIsTransitiveSaid : Prop := fnCompareIsTransitiveRow.holds Try.pinned (OpenSpec.ofChange fnCompareIsTransitiveSpec)

/-- ITS FALSE NEIGHBOUR: 'it returns false'. Refute it at one input. -/
def fnCompareIsTransitiveWrong : ChangeSpec := { name := "fnCompareIsTransitive", fn := fun _ => fun
  | [d1, d2, d3, d4, d5, d6] => { results := [.lit (.bool false)], args := [d1, d2, d3, d4, d5, d6] }
  | _ => none }
def FnCompareIsTransitiveWrongFalsely : Prop := fnCompareIsTransitiveRow.holds Try.pinned (OpenSpec.ofChange fnCompareIsTransitiveWrong)

end Rows
end Go.Proofs.Qxb6602613a
