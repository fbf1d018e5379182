/-
  No cell of these rows narrows 'for every input' (looked for: loops, veiled, ifaces, maps, wideKeys, modest, calm, conditions, laid).
  DERIVED. THE GIVEN ROWS OF THIS SEAT. 9 by the template 'for every input the law returns true; each argument reads behind the call as it read before'; 0 by the template 'total and deterministic' (their statements: Qxb6001401aTotals.lean).
  GIVEN WITH THE SEED: the statements are not yours to turn. If you find one false, say at which input.
  Laid BY PROGRAM, IN A SANDBOX (cutbox-rows.mjs): the forced cells as the released guide's own fill.sh prints them over the translation 07e7081dc14bfa54… (all of the seat's roots in one cut). By AI agents, Wed Nov 11 2026. No macro, syntax, notation, axiom, sorry.
-/
import Derived.Test.Qxb6001401aChecked
import GoSem.Claim
import GoSem.ClaimJoined
import GoSem.ClaimMapViews
import Derived.JoinedTies
import Derived.KernelRfl
namespace Go.Proofs.Qxb6001401a
/- THE CELL 'sum', in the pinned program and in every row, IS THE sha256 OF THE DUMP (.gsa) THAT Qxb6001401aProg.lean LOADS. Nothing in Lean hashes anything: it is a label: what it is worth is what the hold of that sum in a sandbox is worth. -/
noncomputable def Try.pinned : Pinned := { name := "qxb6001401a", sum := "07e7081dc14bfa54a2b9d3edc6eaeda0de982a5e6432360ca1d60fce20effa5a", checked := Try.checked }
namespace Rows
def none {H : Type} : Left H := { results := [], args := [] }

/-- 'zzlaws_internal_lint_b1.FnSkipQuotedStaysInBoundsAndCountsNewlines': WHATEVER THE INPUT: true; the input reads as it did. -/
def fnSkipQuotedStaysInBoundsAndCountsNewlinesSpec : ChangeSpec := { name := "fnSkipQuotedStaysInBoundsAndCountsNewlines", fn := fun _ => fun
  | [d1, d2, d3, d4, d5] => { results := [.lit (.bool true)], args := [d1, d2, d3, d4, d5] }
  | _ => none }
def fnSkipQuotedStaysInBoundsAndCountsNewlinesRow : OpenClaim := { program := "qxb6001401a", sum := "07e7081dc14bfa54a2b9d3edc6eaeda0de982a5e6432360ca1d60fce20effa5a", func := "example.com/stagger/stagger/zzlaws_internal_lint_b1.FnSkipQuotedStaysInBoundsAndCountsNewlines", spec := "fnSkipQuotedStaysInBoundsAndCountsNewlines", apart := false }
def FnSkipQuotedStaysInBoundsAndCountsNewlinesSaid : Prop := fnSkipQuotedStaysInBoundsAndCountsNewlinesRow.holds Try.pinned (OpenSpec.ofChange fnSkipQuotedStaysInBoundsAndCountsNewlinesSpec)

/-- ITS FALSE NEIGHBOUR: 'it returns false'. Refute it at one input. -/
def fnSkipQuotedStaysInBoundsAndCountsNewlinesWrong : ChangeSpec := { name := "fnSkipQuotedStaysInBoundsAndCountsNewlines", fn := fun _ => fun
  | [d1, d2, d3, d4, d5] => { results := [.lit (.bool false)], args := [d1, d2, d3, d4, d5] }
  | _ => none }
def FnSkipQuotedStaysInBoundsAndCountsNewlinesWrongFalsely : Prop := fnSkipQuotedStaysInBoundsAndCountsNewlinesRow.holds Try.pinned (OpenSpec.ofChange fnSkipQuotedStaysInBoundsAndCountsNewlinesWrong)

/-- 'zzlaws_internal_lint_b1.FnSkipQuotedFindsTheEndOfAnEncodedBody': WHATEVER THE INPUT: true; the input reads as it did. -/
def fnSkipQuotedFindsTheEndOfAnEncodedBodySpec : ChangeSpec := { name := "fnSkipQuotedFindsTheEndOfAnEncodedBody", fn := fun _ => fun
  | [d1, d2, d3, d4, d5, d6] => { results := [.lit (.bool true)], args := [d1, d2, d3, d4, d5, d6] }
  | _ => none }
def fnSkipQuotedFindsTheEndOfAnEncodedBodyRow : OpenClaim := { program := "qxb6001401a", sum := "07e7081dc14bfa54a2b9d3edc6eaeda0de982a5e6432360ca1d60fce20effa5a", func := "example.com/stagger/stagger/zzlaws_internal_lint_b1.FnSkipQuotedFindsTheEndOfAnEncodedBody", spec := "fnSkipQuotedFindsTheEndOfAnEncodedBody", apart := false }
def FnSkipQuotedFindsTheEndOfAnEncodedBodySaid : Prop := fnSkipQuotedFindsTheEndOfAnEncodedBodyRow.holds Try.pinned (OpenSpec.ofChange fnSkipQuotedFindsTheEndOfAnEncodedBodySpec)

/-- ITS FALSE NEIGHBOUR: 'it returns false'. Refute it at one input. -/
def fnSkipQuotedFindsTheEndOfAnEncodedBodyWrong : ChangeSpec := { name := "fnSkipQuotedFindsTheEndOfAnEncodedBody", fn := fun _ => fun
  | [d1, d2, d3, d4, d5, d6] => { results := [.lit (.bool false)], args := [d1, d2, d3, d4, d5, d6] }
  | _ => none }
def FnSkipQuotedFindsTheEndOfAnEncodedBodyWrongFalsely : Prop := fnSkipQuotedFindsTheEndOfAnEncodedBodyRow.holds Try.pinned (OpenSpec.ofChange fnSkipQuotedFindsTheEndOfAnEncodedBodyWrong)

/-- 'zzlaws_internal_lint_b1.FnSkipQuotedRefusesAnUnendedBody': WHATEVER THE INPUT: true; the input reads as it did. -/
def fnSkipQuotedRefusesAnUnendedBodySpec : ChangeSpec := { name := "fnSkipQuotedRefusesAnUnendedBody", fn := fun _ => fun
  | [d1, d2, d3, d4, d5] => { results := [.lit (.bool true)], args := [d1, d2, d3, d4, d5] }
  | _ => none }
def fnSkipQuotedRefusesAnUnendedBodyRow : OpenClaim := { program := "qxb6001401a", sum := "07e7081dc14bfa54a2b9d3edc6eaeda0de982a5e6432360ca1d60fce20effa5a", func := "example.com/stagger/stagger/zzlaws_internal_lint_b1.FnSkipQuotedRefusesAnUnendedBody", spec := "fnSkipQuotedRefusesAnUnendedBody", apart := false }
def FnSkipQuotedRefusesAnUnendedBodySaid : Prop := fnSkipQuotedRefusesAnUnendedBodyRow.holds Try.pinned (OpenSpec.ofChange fnSkipQuotedRefusesAnUnendedBodySpec)

/-- ITS FALSE NEIGHBOUR: 'it returns false'. Refute it at one input. -/
def fnSkipQuotedRefusesAnUnendedBodyWrong : ChangeSpec := { name := "fnSkipQuotedRefusesAnUnendedBody", fn := fun _ => fun
  | [d1, d2, d3, d4, d5] => { results := [.lit (.bool false)], args := [d1, d2, d3, d4, d5] }
  | _ => none }
def FnSkipQuotedRefusesAnUnendedBodyWrongFalsely : Prop := fnSkipQuotedRefusesAnUnendedBodyRow.holds Try.pinned (OpenSpec.ofChange fnSkipQuotedRefusesAnUnendedBodyWrong)

/-- 'zzlaws_internal_lint_b1.FnSplitCutsIntoNonEmptyRunsBetweenSemicolons': WHATEVER THE INPUT: true; the input reads as it did. -/
def fnSplitCutsIntoNonEmptyRunsBetweenSemicolonsSpec : ChangeSpec := { name := "fnSplitCutsIntoNonEmptyRunsBetweenSemicolons", fn := fun _ => fun
  | [d1, d2] => { results := [.lit (.bool true)], args := [d1, d2] }
  | _ => none }
def fnSplitCutsIntoNonEmptyRunsBetweenSemicolonsRow : OpenClaim := { program := "qxb6001401a", sum := "07e7081dc14bfa54a2b9d3edc6eaeda0de982a5e6432360ca1d60fce20effa5a", func := "example.com/stagger/stagger/zzlaws_internal_lint_b1.FnSplitCutsIntoNonEmptyRunsBetweenSemicolons", spec := "fnSplitCutsIntoNonEmptyRunsBetweenSemicolons", apart := false }
def FnSplitCutsIntoNonEmptyRunsBetweenSemicolonsSaid : Prop := fnSplitCutsIntoNonEmptyRunsBetweenSemicolonsRow.holds Try.pinned (OpenSpec.ofChange fnSplitCutsIntoNonEmptyRunsBetweenSemicolonsSpec)

/-- ITS FALSE NEIGHBOUR: 'it returns false'. Refute it at one input. -/
def fnSplitCutsIntoNonEmptyRunsBetweenSemicolonsWrong : ChangeSpec := { name := "fnSplitCutsIntoNonEmptyRunsBetweenSemicolons", fn := fun _ => fun
  | [d1, d2] => { results := [.lit (.bool false)], args := [d1, d2] }
  | _ => none }
def FnSplitCutsIntoNonEmptyRunsBetweenSemicolonsWrongFalsely : Prop := fnSplitCutsIntoNonEmptyRunsBetweenSemicolonsRow.holds Try.pinned (OpenSpec.ofChange fnSplitCutsIntoNonEmptyRunsBetweenSemicolonsWrong)

/-- 'zzlaws_internal_lint_b1.FnSplitWithoutParenthesesOrBeginCutsAtEverySemicolon': WHATEVER THE INPUT: true; the input reads as it did. -/
def fnSplitWithoutParenthesesOrBeginCutsAtEverySemicolonSpec : ChangeSpec := { name := "fnSplitWithoutParenthesesOrBeginCutsAtEverySemicolon", fn := fun _ => fun
  | [d1, d2] => { results := [.lit (.bool true)], args := [d1, d2] }
  | _ => none }
def fnSplitWithoutParenthesesOrBeginCutsAtEverySemicolonRow : OpenClaim := { program := "qxb6001401a", sum := "07e7081dc14bfa54a2b9d3edc6eaeda0de982a5e6432360ca1d60fce20effa5a", func := "example.com/stagger/stagger/zzlaws_internal_lint_b1.FnSplitWithoutParenthesesOrBeginCutsAtEverySemicolon", spec := "fnSplitWithoutParenthesesOrBeginCutsAtEverySemicolon", apart := false }
def FnSplitWithoutParenthesesOrBeginCutsAtEverySemicolonSaid : Prop := fnSplitWithoutParenthesesOrBeginCutsAtEverySemicolonRow.holds Try.pinned (OpenSpec.ofChange fnSplitWithoutParenthesesOrBeginCutsAtEverySemicolonSpec)

/-- ITS FALSE NEIGHBOUR: 'it returns false'. Refute it at one input. -/
def fnSplitWithoutParenthesesOrBeginCutsAtEverySemicolonWrong : ChangeSpec := { name := "fnSplitWithoutParenthesesOrBeginCutsAtEverySemicolon", fn := fun _ => fun
  | [d1, d2] => { results := [.lit (.bool false)], args := [d1, d2] }
  | _ => none }
def FnSplitWithoutParenthesesOrBeginCutsAtEverySemicolonWrongFalsely : Prop := fnSplitWithoutParenthesesOrBeginCutsAtEverySemicolonRow.holds Try.pinned (OpenSpec.ofChange fnSplitWithoutParenthesesOrBeginCutsAtEverySemicolonWrong)

/-- 'zzlaws_internal_lint_b1.FnSplitLeavesEachStatementWhole': WHATEVER THE INPUT: true; the input reads as it did. -/
def fnSplitLeavesEachStatementWholeSpec : ChangeSpec := { name := "fnSplitLeavesEachStatementWhole", fn := fun _ => fun
  | [d1, d2] => { results := [.lit (.bool true)], args := [d1, d2] }
  | _ => none }
def fnSplitLeavesEachStatementWholeRow : OpenClaim := { program := "qxb6001401a", sum := "07e7081dc14bfa54a2b9d3edc6eaeda0de982a5e6432360ca1d60fce20effa5a", func := "example.com/stagger/stagger/zzlaws_internal_lint_b1.FnSplitLeavesEachStatementWhole", spec := "fnSplitLeavesEachStatementWhole", apart := false }
def FnSplitLeavesEachStatementWholeSaid : Prop := fnSplitLeavesEachStatementWholeRow.holds Try.pinned (OpenSpec.ofChange fnSplitLeavesEachStatementWholeSpec)

/-- ITS FALSE NEIGHBOUR: 'it returns false'. Refute it at one input. -/
def fnSplitLeavesEachStatementWholeWrong : ChangeSpec := { name := "fnSplitLeavesEachStatementWhole", fn := fun _ => fun
  | [d1, d2] => { results := [.lit (.bool false)], args := [d1, d2] }
  | _ => none }
def FnSplitLeavesEachStatementWholeWrongFalsely : Prop := fnSplitLeavesEachStatementWholeRow.holds Try.pinned (OpenSpec.ofChange fnSplitLeavesEachStatementWholeWrong)

/-- 'zzlaws_internal_lint_b1.FnConjunctsWithoutBracketsOrBetweenCutAtEveryAnd': WHATEVER THE INPUT: true; the input reads as it did. -/
def fnConjunctsWithoutBracketsOrBetweenCutAtEveryAndSpec : ChangeSpec := { name := "fnConjunctsWithoutBracketsOrBetweenCutAtEveryAnd", fn := fun _ => fun
  | [d1, d2] => { results := [.lit (.bool true)], args := [d1, d2] }
  | _ => none }
def fnConjunctsWithoutBracketsOrBetweenCutAtEveryAndRow : OpenClaim := { program := "qxb6001401a", sum := "07e7081dc14bfa54a2b9d3edc6eaeda0de982a5e6432360ca1d60fce20effa5a", func := "example.com/stagger/stagger/zzlaws_internal_lint_b1.FnConjunctsWithoutBracketsOrBetweenCutAtEveryAnd", spec := "fnConjunctsWithoutBracketsOrBetweenCutAtEveryAnd", recurses := true, apart := false }
def FnConjunctsWithoutBracketsOrBetweenCutAtEveryAndSaid : Prop := fnConjunctsWithoutBracketsOrBetweenCutAtEveryAndRow.holds Try.pinned (OpenSpec.ofChange fnConjunctsWithoutBracketsOrBetweenCutAtEveryAndSpec)

/-- ITS FALSE NEIGHBOUR: 'it returns false'. Refute it at one input. -/
def fnConjunctsWithoutBracketsOrBetweenCutAtEveryAndWrong : ChangeSpec := { name := "fnConjunctsWithoutBracketsOrBetweenCutAtEveryAnd", fn := fun _ => fun
  | [d1, d2] => { results := [.lit (.bool false)], args := [d1, d2] }
  | _ => none }
def FnConjunctsWithoutBracketsOrBetweenCutAtEveryAndWrongFalsely : Prop := fnConjunctsWithoutBracketsOrBetweenCutAtEveryAndRow.holds Try.pinned (OpenSpec.ofChange fnConjunctsWithoutBracketsOrBetweenCutAtEveryAndWrong)

/-- 'zzlaws_internal_lint_b1.FnConjunctsSeesThroughOuterParentheses': WHATEVER THE INPUT: true; the input reads as it did. -/
def fnConjunctsSeesThroughOuterParenthesesSpec : ChangeSpec := { name := "fnConjunctsSeesThroughOuterParentheses", fn := fun _ => fun
  | [d1, d2] => { results := [.lit (.bool true)], args := [d1, d2] }
  | _ => none }
def fnConjunctsSeesThroughOuterParenthesesRow : OpenClaim := { program := "qxb6001401a", sum := "07e7081dc14bfa54a2b9d3edc6eaeda0de982a5e6432360ca1d60fce20effa5a", func := "example.com/stagger/stagger/zzlaws_internal_lint_b1.FnConjunctsSeesThroughOuterParentheses", spec := "fnConjunctsSeesThroughOuterParentheses", recurses := true, apart := false }
def FnConjunctsSeesThroughOuterParenthesesSaid : Prop := fnConjunctsSeesThroughOuterParenthesesRow.holds Try.pinned (OpenSpec.ofChange fnConjunctsSeesThroughOuterParenthesesSpec)

/-- ITS FALSE NEIGHBOUR: 'it returns false'. Refute it at one input. -/
def fnConjunctsSeesThroughOuterParenthesesWrong : ChangeSpec := { name := "fnConjunctsSeesThroughOuterParentheses", fn := fun _ => fun
  | [d1, d2] => { results := [.lit (.bool false)], args := [d1, d2] }
  | _ => none }
def FnConjunctsSeesThroughOuterParenthesesWrongFalsely : Prop := fnConjunctsSeesThroughOuterParenthesesRow.holds Try.pinned (OpenSpec.ofChange fnConjunctsSeesThroughOuterParenthesesWrong)

/-- 'zzlaws_internal_lint_b1.FnConjunctsOfAJoinIsTheJoinOfConjuncts': WHATEVER THE INPUT: true; the input reads as it did. -/
def fnConjunctsOfAJoinIsTheJoinOfConjunctsSpec : ChangeSpec := { name := "fnConjunctsOfAJoinIsTheJoinOfConjuncts", fn := fun _ => fun
  | [d1, d2, d3, d4] => { results := [.lit (.bool true)], args := [d1, d2, d3, d4] }
  | _ => none }
def fnConjunctsOfAJoinIsTheJoinOfConjunctsRow : OpenClaim := { program := "qxb6001401a", sum := "07e7081dc14bfa54a2b9d3edc6eaeda0de982a5e6432360ca1d60fce20effa5a", func := "example.com/stagger/stagger/zzlaws_internal_lint_b1.FnConjunctsOfAJoinIsTheJoinOfConjuncts", spec := "fnConjunctsOfAJoinIsTheJoinOfConjuncts", recurses := true, apart := false }
def FnConjunctsOfAJoinIsTheJoinOfConjunctsSaid : Prop := fnConjunctsOfAJoinIsTheJoinOfConjunctsRow.holds Try.pinned (OpenSpec.ofChange fnConjunctsOfAJoinIsTheJoinOfConjunctsSpec)

/-- ITS FALSE NEIGHBOUR: 'it returns false'. Refute it at one input. -/
def fnConjunctsOfAJoinIsTheJoinOfConjunctsWrong : ChangeSpec := { name := "fnConjunctsOfAJoinIsTheJoinOfConjuncts", fn := fun _ => fun
  | [d1, d2, d3, d4] => { results := [.lit (.bool false)], args := [d1, d2, d3, d4] }
  | _ => none }
def FnConjunctsOfAJoinIsTheJoinOfConjunctsWrongFalsely : Prop := fnConjunctsOfAJoinIsTheJoinOfConjunctsRow.holds Try.pinned (OpenSpec.ofChange fnConjunctsOfAJoinIsTheJoinOfConjunctsWrong)

end Rows
end Go.Proofs.Qxb6001401a
