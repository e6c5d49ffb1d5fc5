/-
  No cell of these rows narrows 'for every input' (looked for: loops, veiled, ifaces, maps, wideKeys, modest, calm, conditions, laid).
  DERIVED. THE GIVEN ROWS OF THIS SEAT. 7 by the template 'for every input the law returns true; each argument reads behind the call as it read before'; 0 by the template 'total and deterministic' (their statements: Qxb6002649aTotals.lean).
  GIVEN WITH THE SEED: the statements are not yours to turn. If you find one false, say at which input.
  Laid BY PROGRAM, IN A SANDBOX (cutbox-rows.mjs): the forced cells as the released guide's own fill.sh prints them over the translation db1bca70743c4eaf… (all of the seat's roots in one cut). By AI agents, Wed Nov 11 2026. No macro, syntax, notation, axiom, sorry.
-/
import Derived.Test.Qxb6002649aChecked
import GoSem.Claim
import GoSem.ClaimJoined
import GoSem.ClaimMapViews
import Derived.JoinedTies
import Derived.KernelRfl
namespace Go.Proofs.Qxb6002649a
/- THE CELL 'sum', in the pinned program and in every row, IS THE sha256 OF THE DUMP (.gsa) THAT Qxb6002649aProg.lean LOADS. Nothing in Lean hashes anything: it is a label: what it is worth is what the hold of that sum in a sandbox is worth. -/
noncomputable def Try.pinned : Pinned := { name := "qxb6002649a", sum := "db1bca70743c4eaf05aaac48aeb069d4877b630eeca392da2990083226064c3d", checked := Try.checked }
namespace Rows
def none {H : Type} : Left H := { results := [], args := [] }

/-- 'zzlaws_internal_syntax_b1.FnPrecedenceZeroExactlyOffBinaryOperators': WHATEVER THE INPUT: true; the input reads as it did. -/
def fnPrecedenceZeroExactlyOffBinaryOperatorsSpec : ChangeSpec := { name := "fnPrecedenceZeroExactlyOffBinaryOperators", fn := fun _ => fun
  | [d] => { results := [.lit (.bool true)], args := [d] }
  | _ => none }
def fnPrecedenceZeroExactlyOffBinaryOperatorsRow : OpenClaim := { program := "qxb6002649a", sum := "db1bca70743c4eaf05aaac48aeb069d4877b630eeca392da2990083226064c3d", func := "example.com/tanager/tanager/zzlaws_internal_syntax_b1.FnPrecedenceZeroExactlyOffBinaryOperators", spec := "fnPrecedenceZeroExactlyOffBinaryOperators", apart := false }
def FnPrecedenceZeroExactlyOffBinaryOperatorsSaid : Prop := fnPrecedenceZeroExactlyOffBinaryOperatorsRow.holds Try.pinned (OpenSpec.ofChange fnPrecedenceZeroExactlyOffBinaryOperatorsSpec)

/-- ITS FALSE NEIGHBOUR: 'it returns false'. Refute it at one input. -/
def fnPrecedenceZeroExactlyOffBinaryOperatorsWrong : ChangeSpec := { name := "fnPrecedenceZeroExactlyOffBinaryOperators", fn := fun _ => fun
  | [d] => { results := [.lit (.bool false)], args := [d] }
  | _ => none }
def FnPrecedenceZeroExactlyOffBinaryOperatorsWrongFalsely : Prop := fnPrecedenceZeroExactlyOffBinaryOperatorsRow.holds Try.pinned (OpenSpec.ofChange fnPrecedenceZeroExactlyOffBinaryOperatorsWrong)

/-- 'zzlaws_internal_syntax_b1.FnPrecedenceLevelsOrdered': WHATEVER THE INPUT: true; the input reads as it did. -/
def fnPrecedenceLevelsOrderedSpec : ChangeSpec := { name := "fnPrecedenceLevelsOrdered", fn := fun _ => fun
  | [d] => { results := [.lit (.bool true)], args := [d] }
  | _ => none }
def fnPrecedenceLevelsOrderedRow : OpenClaim := { program := "qxb6002649a", sum := "db1bca70743c4eaf05aaac48aeb069d4877b630eeca392da2990083226064c3d", func := "example.com/tanager/tanager/zzlaws_internal_syntax_b1.FnPrecedenceLevelsOrdered", spec := "fnPrecedenceLevelsOrdered", apart := false }
def FnPrecedenceLevelsOrderedSaid : Prop := fnPrecedenceLevelsOrderedRow.holds Try.pinned (OpenSpec.ofChange fnPrecedenceLevelsOrderedSpec)

/-- ITS FALSE NEIGHBOUR: 'it returns false'. Refute it at one input. -/
def fnPrecedenceLevelsOrderedWrong : ChangeSpec := { name := "fnPrecedenceLevelsOrdered", fn := fun _ => fun
  | [d] => { results := [.lit (.bool false)], args := [d] }
  | _ => none }
def FnPrecedenceLevelsOrderedWrongFalsely : Prop := fnPrecedenceLevelsOrderedRow.holds Try.pinned (OpenSpec.ofChange fnPrecedenceLevelsOrderedWrong)

/-- 'zzlaws_internal_syntax_b1.FnPrecedenceCompoundAssignOperatorIsBinary': WHATEVER THE INPUT: true; the input reads as it did. -/
def fnPrecedenceCompoundAssignOperatorIsBinarySpec : ChangeSpec := { name := "fnPrecedenceCompoundAssignOperatorIsBinary", fn := fun _ => fun
  | [d] => { results := [.lit (.bool true)], args := [d] }
  | _ => none }
def fnPrecedenceCompoundAssignOperatorIsBinaryRow : OpenClaim := { program := "qxb6002649a", sum := "db1bca70743c4eaf05aaac48aeb069d4877b630eeca392da2990083226064c3d", func := "example.com/tanager/tanager/zzlaws_internal_syntax_b1.FnPrecedenceCompoundAssignOperatorIsBinary", spec := "fnPrecedenceCompoundAssignOperatorIsBinary", apart := false }
def FnPrecedenceCompoundAssignOperatorIsBinarySaid : Prop := fnPrecedenceCompoundAssignOperatorIsBinaryRow.holds Try.pinned (OpenSpec.ofChange fnPrecedenceCompoundAssignOperatorIsBinarySpec)

/-- ITS FALSE NEIGHBOUR: 'it returns false'. Refute it at one input. -/
def fnPrecedenceCompoundAssignOperatorIsBinaryWrong : ChangeSpec := { name := "fnPrecedenceCompoundAssignOperatorIsBinary", fn := fun _ => fun
  | [d] => { results := [.lit (.bool false)], args := [d] }
  | _ => none }
def FnPrecedenceCompoundAssignOperatorIsBinaryWrongFalsely : Prop := fnPrecedenceCompoundAssignOperatorIsBinaryRow.holds Try.pinned (OpenSpec.ofChange fnPrecedenceCompoundAssignOperatorIsBinaryWrong)

/-- 'zzlaws_internal_syntax_b1.FnHexValueInvertsDigitWriting': WHATEVER THE INPUT: true; the input reads as it did. -/
def fnHexValueInvertsDigitWritingSpec : ChangeSpec := { name := "fnHexValueInvertsDigitWriting", fn := fun _ => fun
  | [d] => { results := [.lit (.bool true)], args := [d] }
  | _ => none }
def fnHexValueInvertsDigitWritingRow : OpenClaim := { program := "qxb6002649a", sum := "db1bca70743c4eaf05aaac48aeb069d4877b630eeca392da2990083226064c3d", func := "example.com/tanager/tanager/zzlaws_internal_syntax_b1.FnHexValueInvertsDigitWriting", spec := "fnHexValueInvertsDigitWriting", apart := false }
def FnHexValueInvertsDigitWritingSaid : Prop := fnHexValueInvertsDigitWritingRow.holds Try.pinned (OpenSpec.ofChange fnHexValueInvertsDigitWritingSpec)

/-- ITS FALSE NEIGHBOUR: 'it returns false'. Refute it at one input. -/
def fnHexValueInvertsDigitWritingWrong : ChangeSpec := { name := "fnHexValueInvertsDigitWriting", fn := fun _ => fun
  | [d] => { results := [.lit (.bool false)], args := [d] }
  | _ => none }
def FnHexValueInvertsDigitWritingWrongFalsely : Prop := fnHexValueInvertsDigitWritingRow.holds Try.pinned (OpenSpec.ofChange fnHexValueInvertsDigitWritingWrong)

/-- 'zzlaws_internal_syntax_b1.FnHexValueAcceptsExactlyAndRoundTrips': WHATEVER THE INPUT: true; the input reads as it did. -/
def fnHexValueAcceptsExactlyAndRoundTripsSpec : ChangeSpec := { name := "fnHexValueAcceptsExactlyAndRoundTrips", fn := fun _ => fun
  | [d] => { results := [.lit (.bool true)], args := [d] }
  | _ => none }
def fnHexValueAcceptsExactlyAndRoundTripsRow : OpenClaim := { program := "qxb6002649a", sum := "db1bca70743c4eaf05aaac48aeb069d4877b630eeca392da2990083226064c3d", func := "example.com/tanager/tanager/zzlaws_internal_syntax_b1.FnHexValueAcceptsExactlyAndRoundTrips", spec := "fnHexValueAcceptsExactlyAndRoundTrips", apart := false }
def FnHexValueAcceptsExactlyAndRoundTripsSaid : Prop := fnHexValueAcceptsExactlyAndRoundTripsRow.holds Try.pinned (OpenSpec.ofChange fnHexValueAcceptsExactlyAndRoundTripsSpec)

/-- ITS FALSE NEIGHBOUR: 'it returns false'. Refute it at one input. -/
def fnHexValueAcceptsExactlyAndRoundTripsWrong : ChangeSpec := { name := "fnHexValueAcceptsExactlyAndRoundTrips", fn := fun _ => fun
  | [d] => { results := [.lit (.bool false)], args := [d] }
  | _ => none }
def FnHexValueAcceptsExactlyAndRoundTripsWrongFalsely : Prop := fnHexValueAcceptsExactlyAndRoundTripsRow.holds Try.pinned (OpenSpec.ofChange fnHexValueAcceptsExactlyAndRoundTripsWrong)

/-- 'zzlaws_internal_syntax_b1.FnLineEndsStmtBracketOpenCloseRestores': WHATEVER THE INPUT: true; the input reads as it did. -/
def fnLineEndsStmtBracketOpenCloseRestoresSpec : ChangeSpec := { name := "fnLineEndsStmtBracketOpenCloseRestores", fn := fun _ => fun
  | [d1, d2, d3] => { results := [.lit (.bool true)], args := [d1, d2, d3] }
  | _ => none }
def fnLineEndsStmtBracketOpenCloseRestoresRow : OpenClaim := { program := "qxb6002649a", sum := "db1bca70743c4eaf05aaac48aeb069d4877b630eeca392da2990083226064c3d", func := "example.com/tanager/tanager/zzlaws_internal_syntax_b1.FnLineEndsStmtBracketOpenCloseRestores", spec := "fnLineEndsStmtBracketOpenCloseRestores", apart := false }
def FnLineEndsStmtBracketOpenCloseRestoresSaid : Prop := fnLineEndsStmtBracketOpenCloseRestoresRow.holds Try.pinned (OpenSpec.ofChange fnLineEndsStmtBracketOpenCloseRestoresSpec)

/-- ITS FALSE NEIGHBOUR: 'it returns false'. Refute it at one input. -/
def fnLineEndsStmtBracketOpenCloseRestoresWrong : ChangeSpec := { name := "fnLineEndsStmtBracketOpenCloseRestores", fn := fun _ => fun
  | [d1, d2, d3] => { results := [.lit (.bool false)], args := [d1, d2, d3] }
  | _ => none }
def FnLineEndsStmtBracketOpenCloseRestoresWrongFalsely : Prop := fnLineEndsStmtBracketOpenCloseRestoresRow.holds Try.pinned (OpenSpec.ofChange fnLineEndsStmtBracketOpenCloseRestoresWrong)

/-- 'zzlaws_internal_syntax_b1.FnLineEndsStmtOnlyInnermostCounts': WHATEVER THE INPUT: true; the input reads as it did. -/
def fnLineEndsStmtOnlyInnermostCountsSpec : ChangeSpec := { name := "fnLineEndsStmtOnlyInnermostCounts", fn := fun _ => fun
  | [d1, d2, d3, d4] => { results := [.lit (.bool true)], args := [d1, d2, d3, d4] }
  | _ => none }
def fnLineEndsStmtOnlyInnermostCountsRow : OpenClaim := { program := "qxb6002649a", sum := "db1bca70743c4eaf05aaac48aeb069d4877b630eeca392da2990083226064c3d", func := "example.com/tanager/tanager/zzlaws_internal_syntax_b1.FnLineEndsStmtOnlyInnermostCounts", spec := "fnLineEndsStmtOnlyInnermostCounts", apart := false }
def FnLineEndsStmtOnlyInnermostCountsSaid : Prop := fnLineEndsStmtOnlyInnermostCountsRow.holds Try.pinned (OpenSpec.ofChange fnLineEndsStmtOnlyInnermostCountsSpec)

/-- ITS FALSE NEIGHBOUR: 'it returns false'. Refute it at one input. -/
def fnLineEndsStmtOnlyInnermostCountsWrong : ChangeSpec := { name := "fnLineEndsStmtOnlyInnermostCounts", fn := fun _ => fun
  | [d1, d2, d3, d4] => { results := [.lit (.bool false)], args := [d1, d2, d3, d4] }
  | _ => none }
def FnLineEndsStmtOnlyInnermostCountsWrongFalsely : Prop := fnLineEndsStmtOnlyInnermostCountsRow.holds Try.pinned (OpenSpec.ofChange fnLineEndsStmtOnlyInnermostCountsWrong)

end Rows
end Go.Proofs.Qxb6002649a
