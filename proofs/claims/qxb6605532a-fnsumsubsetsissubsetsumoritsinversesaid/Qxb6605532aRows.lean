/-
  No cell of these rows narrows 'for every input' (looked for: loops, veiled, ifaces, maps, wideKeys, modest, calm, conditions, laid).
  DERIVED. THE GIVEN ROWS OF THIS SEAT. 4 by the template 'for every input the law returns true; each argument reads behind the call as it read before'; 0 by the template 'total and deterministic' (their statements: Qxb6605532aTotals.lean).
  GIVEN WITH THE SEED: the statements are not yours to turn. If you find one false, say at which input.
  Laid BY PROGRAM, IN A SANDBOX (cutbox-rows.mjs): the forced cells as the released guide's own fill.sh prints them over the translation d56e5f17f50a0955… (all of the seat's roots in one cut). By AI agents, Wed Nov 11 2026. No macro, syntax, notation, axiom, sorry.
-/
import Derived.Test.Qxb6605532aChecked
import GoSem.Claim
import GoSem.ClaimJoined
import GoSem.ClaimMapViews
import Derived.JoinedTies
import Derived.KernelRfl
namespace Go.Proofs.Qxb6605532a
/- THE CELL 'sum', in the pinned program and in every row, IS THE sha256 OF THE DUMP (.gsa) THAT Qxb6605532aProg.lean LOADS. Nothing in Lean hashes anything: it is a label: what it is worth is what the hold of that sum in a sandbox is worth. -/
noncomputable def Try.pinned : Pinned := { name := "qxb6605532a", sum := "d56e5f17f50a0955fbaa981609773e3b4710dd78243747e525269631a7d95b8d", checked := Try.checked }
namespace Rows
def none {H : Type} : Left H := { results := [], args := [] }

/-- 'zzlaws_internal_quorum_b1.FnSumSubsetsIsSubsetSumOrItsInverse': WHATEVER THE INPUT: true; the input reads as it did. -/
def fnSumSubsetsIsSubsetSumOrItsInverseSpec : ChangeSpec := { name := "fnSumSubsetsIsSubsetSumOrItsInverse", fn := fun _ => fun
  | [d1, d2] => { results := [.lit (.bool true)], args := [d1, d2] }
  | _ => none }
def fnSumSubsetsIsSubsetSumOrItsInverseRow : OpenClaim := { program := "qxb6605532a", sum := "d56e5f17f50a0955fbaa981609773e3b4710dd78243747e525269631a7d95b8d", func := "example.com/ballotwright/ballotwright/zzlaws_internal_quorum_b1.FnSumSubsetsIsSubsetSumOrItsInverse", spec := "fnSumSubsetsIsSubsetSumOrItsInverse", apart := false }
def FnSumSubsetsIsSubsetSumOrItsInverseSaid : Prop := fnSumSubsetsIsSubsetSumOrItsInverseRow.holds Try.pinned (OpenSpec.ofChange fnSumSubsetsIsSubsetSumOrItsInverseSpec)

/-- ITS FALSE NEIGHBOUR: 'it returns false'. Refute it at one input. -/
def fnSumSubsetsIsSubsetSumOrItsInverseWrong : ChangeSpec := { name := "fnSumSubsetsIsSubsetSumOrItsInverse", fn := fun _ => fun
  | [d1, d2] => { results := [.lit (.bool false)], args := [d1, d2] }
  | _ => none }
def FnSumSubsetsIsSubsetSumOrItsInverseWrongFalsely : Prop := fnSumSubsetsIsSubsetSumOrItsInverseRow.holds Try.pinned (OpenSpec.ofChange fnSumSubsetsIsSubsetSumOrItsInverseWrong)

/-- 'zzlaws_internal_quorum_b1.FnSumSubsetsRoundTripsAndTotals': WHATEVER THE INPUT: true; the input reads as it did. -/
def fnSumSubsetsRoundTripsAndTotalsSpec : ChangeSpec := { name := "fnSumSubsetsRoundTripsAndTotals", fn := fun _ => fun
  | [d] => { results := [.lit (.bool true)], args := [d] }
  | _ => none }
def fnSumSubsetsRoundTripsAndTotalsRow : OpenClaim := { program := "qxb6605532a", sum := "d56e5f17f50a0955fbaa981609773e3b4710dd78243747e525269631a7d95b8d", func := "example.com/ballotwright/ballotwright/zzlaws_internal_quorum_b1.FnSumSubsetsRoundTripsAndTotals", spec := "fnSumSubsetsRoundTripsAndTotals", apart := false }
def FnSumSubsetsRoundTripsAndTotalsSaid : Prop := fnSumSubsetsRoundTripsAndTotalsRow.holds Try.pinned (OpenSpec.ofChange fnSumSubsetsRoundTripsAndTotalsSpec)

/-- ITS FALSE NEIGHBOUR: 'it returns false'. Refute it at one input. -/
def fnSumSubsetsRoundTripsAndTotalsWrong : ChangeSpec := { name := "fnSumSubsetsRoundTripsAndTotals", fn := fun _ => fun
  | [d] => { results := [.lit (.bool false)], args := [d] }
  | _ => none }
def FnSumSubsetsRoundTripsAndTotalsWrongFalsely : Prop := fnSumSubsetsRoundTripsAndTotalsRow.holds Try.pinned (OpenSpec.ofChange fnSumSubsetsRoundTripsAndTotalsWrong)

/-- 'zzlaws_internal_quorum_b1.FnOutsideTwoQuorumsIsLowestSplit': WHATEVER THE INPUT: true; the input reads as it did. -/
def fnOutsideTwoQuorumsIsLowestSplitSpec : ChangeSpec := { name := "fnOutsideTwoQuorumsIsLowestSplit", fn := fun _ => fun
  | [d1, d2] => { results := [.lit (.bool true)], args := [d1, d2] }
  | _ => none }
def fnOutsideTwoQuorumsIsLowestSplitRow : OpenClaim := { program := "qxb6605532a", sum := "d56e5f17f50a0955fbaa981609773e3b4710dd78243747e525269631a7d95b8d", func := "example.com/ballotwright/ballotwright/zzlaws_internal_quorum_b1.FnOutsideTwoQuorumsIsLowestSplit", spec := "fnOutsideTwoQuorumsIsLowestSplit", apart := false }
def FnOutsideTwoQuorumsIsLowestSplitSaid : Prop := fnOutsideTwoQuorumsIsLowestSplitRow.holds Try.pinned (OpenSpec.ofChange fnOutsideTwoQuorumsIsLowestSplitSpec)

/-- ITS FALSE NEIGHBOUR: 'it returns false'. Refute it at one input. -/
def fnOutsideTwoQuorumsIsLowestSplitWrong : ChangeSpec := { name := "fnOutsideTwoQuorumsIsLowestSplit", fn := fun _ => fun
  | [d1, d2] => { results := [.lit (.bool false)], args := [d1, d2] }
  | _ => none }
def FnOutsideTwoQuorumsIsLowestSplitWrongFalsely : Prop := fnOutsideTwoQuorumsIsLowestSplitRow.holds Try.pinned (OpenSpec.ofChange fnOutsideTwoQuorumsIsLowestSplitWrong)

/-- 'zzlaws_internal_quorum_b1.FnOutsideTwoQuorumsFindsThreeWithNoCommonAcceptor': WHATEVER THE INPUT: true; the input reads as it did. -/
def fnOutsideTwoQuorumsFindsThreeWithNoCommonAcceptorSpec : ChangeSpec := { name := "fnOutsideTwoQuorumsFindsThreeWithNoCommonAcceptor", fn := fun _ => fun
  | [d1, d2] => { results := [.lit (.bool true)], args := [d1, d2] }
  | _ => none }
def fnOutsideTwoQuorumsFindsThreeWithNoCommonAcceptorRow : OpenClaim := { program := "qxb6605532a", sum := "d56e5f17f50a0955fbaa981609773e3b4710dd78243747e525269631a7d95b8d", func := "example.com/ballotwright/ballotwright/zzlaws_internal_quorum_b1.FnOutsideTwoQuorumsFindsThreeWithNoCommonAcceptor", spec := "fnOutsideTwoQuorumsFindsThreeWithNoCommonAcceptor", apart := false }
def FnOutsideTwoQuorumsFindsThreeWithNoCommonAcceptorSaid : Prop := fnOutsideTwoQuorumsFindsThreeWithNoCommonAcceptorRow.holds Try.pinned (OpenSpec.ofChange fnOutsideTwoQuorumsFindsThreeWithNoCommonAcceptorSpec)

/-- ITS FALSE NEIGHBOUR: 'it returns false'. Refute it at one input. -/
def fnOutsideTwoQuorumsFindsThreeWithNoCommonAcceptorWrong : ChangeSpec := { name := "fnOutsideTwoQuorumsFindsThreeWithNoCommonAcceptor", fn := fun _ => fun
  | [d1, d2] => { results := [.lit (.bool false)], args := [d1, d2] }
  | _ => none }
def FnOutsideTwoQuorumsFindsThreeWithNoCommonAcceptorWrongFalsely : Prop := fnOutsideTwoQuorumsFindsThreeWithNoCommonAcceptorRow.holds Try.pinned (OpenSpec.ofChange fnOutsideTwoQuorumsFindsThreeWithNoCommonAcceptorWrong)

end Rows
end Go.Proofs.Qxb6605532a
