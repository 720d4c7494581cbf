/-
  No cell of these rows narrows 'for every input' (looked for: loops, veiled, ifaces, maps, wideKeys, modest, calm, conditions, laid).
  DERIVED. THE GIVEN ROWS OF THIS SEAT. 7 by the template 'for every input the law returns true; each argument reads behind the call as it read before'; 0 by the template 'total and deterministic' (their statements: Qxb6602575aTotals.lean).
  GIVEN WITH THE SEED: the statements are not yours to turn. If you find one false, say at which input.
  Laid BY PROGRAM, IN A SANDBOX (cutbox-rows.mjs): the forced cells as the released guide's own fill.sh prints them over the translation 49fda839e25d0dd2… (all of the seat's roots in one cut). By AI agents, Wed Nov 11 2026. No macro, syntax, notation, axiom, sorry.
-/
import Derived.Test.Qxb6602575aChecked
import GoSem.Claim
import GoSem.ClaimJoined
import GoSem.ClaimMapViews
import Derived.JoinedTies
import Derived.KernelRfl
namespace Go.Proofs.Qxb6602575a
/- THE CELL 'sum', in the pinned program and in every row, IS THE sha256 OF THE DUMP (.gsa) THAT Qxb6602575aProg.lean LOADS. Nothing in Lean hashes anything: it is a label: what it is worth is what the hold of that sum in a sandbox is worth. -/
noncomputable def Try.pinned : Pinned := { name := "qxb6602575a", sum := "49fda839e25d0dd20336792d15bb0a70620ec7a01dfb2b53c5753f75d0d42490", checked := Try.checked }
namespace Rows
def none {H : Type} : Left H := { results := [], args := [] }

/-- 'zzlaws_internal_jsonscan_b1.FnNumberEndMatchesLongestNumberPrefix': WHATEVER THE INPUT: true; the input reads as it did. -/
def fnNumberEndMatchesLongestNumberPrefixSpec : ChangeSpec := { name := "fnNumberEndMatchesLongestNumberPrefix", fn := fun _ => fun
  | [d1, d2] => { results := [.lit (.bool true)], args := [d1, d2] }
  | _ => none }
def fnNumberEndMatchesLongestNumberPrefixRow : OpenClaim := { program := "qxb6602575a", sum := "49fda839e25d0dd20336792d15bb0a70620ec7a01dfb2b53c5753f75d0d42490", func := "example.com/fuseline/fuseline/zzlaws_internal_jsonscan_b1.FnNumberEndMatchesLongestNumberPrefix", spec := "fnNumberEndMatchesLongestNumberPrefix", apart := false }
def FnNumberEndMatchesLongestNumberPrefixSaid : Prop := fnNumberEndMatchesLongestNumberPrefixRow.holds Try.pinned (OpenSpec.ofChange fnNumberEndMatchesLongestNumberPrefixSpec)

/-- ITS FALSE NEIGHBOUR: 'it returns false'. Refute it at one input. -/
def fnNumberEndMatchesLongestNumberPrefixWrong : ChangeSpec := { name := "fnNumberEndMatchesLongestNumberPrefix", fn := fun _ => fun
  | [d1, d2] => { results := [.lit (.bool false)], args := [d1, d2] }
  | _ => none }
def FnNumberEndMatchesLongestNumberPrefixWrongFalsely : Prop := fnNumberEndMatchesLongestNumberPrefixRow.holds Try.pinned (OpenSpec.ofChange fnNumberEndMatchesLongestNumberPrefixWrong)

/-- 'zzlaws_internal_jsonscan_b1.FnNumberEndLooksNoFurtherThanItsNumber': WHATEVER THE INPUT: true; the input reads as it did. -/
def fnNumberEndLooksNoFurtherThanItsNumberSpec : ChangeSpec := { name := "fnNumberEndLooksNoFurtherThanItsNumber", fn := fun _ => fun
  | [d1, d2] => { results := [.lit (.bool true)], args := [d1, d2] }
  | _ => none }
def fnNumberEndLooksNoFurtherThanItsNumberRow : OpenClaim := { program := "qxb6602575a", sum := "49fda839e25d0dd20336792d15bb0a70620ec7a01dfb2b53c5753f75d0d42490", func := "example.com/fuseline/fuseline/zzlaws_internal_jsonscan_b1.FnNumberEndLooksNoFurtherThanItsNumber", spec := "fnNumberEndLooksNoFurtherThanItsNumber", apart := false }
def FnNumberEndLooksNoFurtherThanItsNumberSaid : Prop := fnNumberEndLooksNoFurtherThanItsNumberRow.holds Try.pinned (OpenSpec.ofChange fnNumberEndLooksNoFurtherThanItsNumberSpec)

/-- ITS FALSE NEIGHBOUR: 'it returns false'. Refute it at one input. -/
def fnNumberEndLooksNoFurtherThanItsNumberWrong : ChangeSpec := { name := "fnNumberEndLooksNoFurtherThanItsNumber", fn := fun _ => fun
  | [d1, d2] => { results := [.lit (.bool false)], args := [d1, d2] }
  | _ => none }
def FnNumberEndLooksNoFurtherThanItsNumberWrongFalsely : Prop := fnNumberEndLooksNoFurtherThanItsNumberRow.holds Try.pinned (OpenSpec.ofChange fnNumberEndLooksNoFurtherThanItsNumberWrong)

/-- 'zzlaws_internal_jsonscan_b1.FnNumberRestMatchesNumberGrammar': WHATEVER THE INPUT: true; the input reads as it did. -/
def fnNumberRestMatchesNumberGrammarSpec : ChangeSpec := { name := "fnNumberRestMatchesNumberGrammar", fn := fun _ => fun
  | [d1, d2, d3] => { results := [.lit (.bool true)], args := [d1, d2, d3] }
  | _ => none }
def fnNumberRestMatchesNumberGrammarRow : OpenClaim := { program := "qxb6602575a", sum := "49fda839e25d0dd20336792d15bb0a70620ec7a01dfb2b53c5753f75d0d42490", func := "example.com/fuseline/fuseline/zzlaws_internal_jsonscan_b1.FnNumberRestMatchesNumberGrammar", spec := "fnNumberRestMatchesNumberGrammar", apart := false }
def FnNumberRestMatchesNumberGrammarSaid : Prop := fnNumberRestMatchesNumberGrammarRow.holds Try.pinned (OpenSpec.ofChange fnNumberRestMatchesNumberGrammarSpec)

/-- ITS FALSE NEIGHBOUR: 'it returns false'. Refute it at one input. -/
def fnNumberRestMatchesNumberGrammarWrong : ChangeSpec := { name := "fnNumberRestMatchesNumberGrammar", fn := fun _ => fun
  | [d1, d2, d3] => { results := [.lit (.bool false)], args := [d1, d2, d3] }
  | _ => none }
def FnNumberRestMatchesNumberGrammarWrongFalsely : Prop := fnNumberRestMatchesNumberGrammarRow.holds Try.pinned (OpenSpec.ofChange fnNumberRestMatchesNumberGrammarWrong)

/-- 'zzlaws_internal_jsonscan_b1.FnNumberRestEndsWhereNumberEndEnds': WHATEVER THE INPUT: true; the input reads as it did. -/
def fnNumberRestEndsWhereNumberEndEndsSpec : ChangeSpec := { name := "fnNumberRestEndsWhereNumberEndEnds", fn := fun _ => fun
  | [d1, d2, d3] => { results := [.lit (.bool true)], args := [d1, d2, d3] }
  | _ => none }
def fnNumberRestEndsWhereNumberEndEndsRow : OpenClaim := { program := "qxb6602575a", sum := "49fda839e25d0dd20336792d15bb0a70620ec7a01dfb2b53c5753f75d0d42490", func := "example.com/fuseline/fuseline/zzlaws_internal_jsonscan_b1.FnNumberRestEndsWhereNumberEndEnds", spec := "fnNumberRestEndsWhereNumberEndEnds", apart := false }
def FnNumberRestEndsWhereNumberEndEndsSaid : Prop := fnNumberRestEndsWhereNumberEndEndsRow.holds Try.pinned (OpenSpec.ofChange fnNumberRestEndsWhereNumberEndEndsSpec)

/-- ITS FALSE NEIGHBOUR: 'it returns false'. Refute it at one input. -/
def fnNumberRestEndsWhereNumberEndEndsWrong : ChangeSpec := { name := "fnNumberRestEndsWhereNumberEndEnds", fn := fun _ => fun
  | [d1, d2, d3] => { results := [.lit (.bool false)], args := [d1, d2, d3] }
  | _ => none }
def FnNumberRestEndsWhereNumberEndEndsWrongFalsely : Prop := fnNumberRestEndsWhereNumberEndEndsRow.holds Try.pinned (OpenSpec.ofChange fnNumberRestEndsWhereNumberEndEndsWrong)

/-- 'zzlaws_internal_jsonscan_b1.FnNumberRestReadsTwoPiecesAsOne': WHATEVER THE INPUT: true; the input reads as it did. -/
def fnNumberRestReadsTwoPiecesAsOneSpec : ChangeSpec := { name := "fnNumberRestReadsTwoPiecesAsOne", fn := fun _ => fun
  | [d1, d2, d3] => { results := [.lit (.bool true)], args := [d1, d2, d3] }
  | _ => none }
def fnNumberRestReadsTwoPiecesAsOneRow : OpenClaim := { program := "qxb6602575a", sum := "49fda839e25d0dd20336792d15bb0a70620ec7a01dfb2b53c5753f75d0d42490", func := "example.com/fuseline/fuseline/zzlaws_internal_jsonscan_b1.FnNumberRestReadsTwoPiecesAsOne", spec := "fnNumberRestReadsTwoPiecesAsOne", apart := false }
def FnNumberRestReadsTwoPiecesAsOneSaid : Prop := fnNumberRestReadsTwoPiecesAsOneRow.holds Try.pinned (OpenSpec.ofChange fnNumberRestReadsTwoPiecesAsOneSpec)

/-- ITS FALSE NEIGHBOUR: 'it returns false'. Refute it at one input. -/
def fnNumberRestReadsTwoPiecesAsOneWrong : ChangeSpec := { name := "fnNumberRestReadsTwoPiecesAsOne", fn := fun _ => fun
  | [d1, d2, d3] => { results := [.lit (.bool false)], args := [d1, d2, d3] }
  | _ => none }
def FnNumberRestReadsTwoPiecesAsOneWrongFalsely : Prop := fnNumberRestReadsTwoPiecesAsOneRow.holds Try.pinned (OpenSpec.ofChange fnNumberRestReadsTwoPiecesAsOneWrong)

/-- 'zzlaws_internal_jsonscan_b1.FnBeginValueMatchesCaseTable': WHATEVER THE INPUT: true; the input reads as it did. -/
def fnBeginValueMatchesCaseTableSpec : ChangeSpec := { name := "fnBeginValueMatchesCaseTable", fn := fun _ => fun
  | [d1, d2, d3] => { results := [.lit (.bool true)], args := [d1, d2, d3] }
  | _ => none }
def fnBeginValueMatchesCaseTableRow : OpenClaim := { program := "qxb6602575a", sum := "49fda839e25d0dd20336792d15bb0a70620ec7a01dfb2b53c5753f75d0d42490", func := "example.com/fuseline/fuseline/zzlaws_internal_jsonscan_b1.FnBeginValueMatchesCaseTable", spec := "fnBeginValueMatchesCaseTable", apart := false }
def FnBeginValueMatchesCaseTableSaid : Prop := fnBeginValueMatchesCaseTableRow.holds Try.pinned (OpenSpec.ofChange fnBeginValueMatchesCaseTableSpec)

/-- ITS FALSE NEIGHBOUR: 'it returns false'. Refute it at one input. -/
def fnBeginValueMatchesCaseTableWrong : ChangeSpec := { name := "fnBeginValueMatchesCaseTable", fn := fun _ => fun
  | [d1, d2, d3] => { results := [.lit (.bool false)], args := [d1, d2, d3] }
  | _ => none }
def FnBeginValueMatchesCaseTableWrongFalsely : Prop := fnBeginValueMatchesCaseTableRow.holds Try.pinned (OpenSpec.ofChange fnBeginValueMatchesCaseTableWrong)

/-- 'zzlaws_internal_jsonscan_b1.FnBeginValueReadsNumbersAsNumberEnd': WHATEVER THE INPUT: true; the input reads as it did. -/
def fnBeginValueReadsNumbersAsNumberEndSpec : ChangeSpec := { name := "fnBeginValueReadsNumbersAsNumberEnd", fn := fun _ => fun
  | [d1, d2] => { results := [.lit (.bool true)], args := [d1, d2] }
  | _ => none }
def fnBeginValueReadsNumbersAsNumberEndRow : OpenClaim := { program := "qxb6602575a", sum := "49fda839e25d0dd20336792d15bb0a70620ec7a01dfb2b53c5753f75d0d42490", func := "example.com/fuseline/fuseline/zzlaws_internal_jsonscan_b1.FnBeginValueReadsNumbersAsNumberEnd", spec := "fnBeginValueReadsNumbersAsNumberEnd", apart := false }
def FnBeginValueReadsNumbersAsNumberEndSaid : Prop := fnBeginValueReadsNumbersAsNumberEndRow.holds Try.pinned (OpenSpec.ofChange fnBeginValueReadsNumbersAsNumberEndSpec)

/-- ITS FALSE NEIGHBOUR: 'it returns false'. Refute it at one input. -/
def fnBeginValueReadsNumbersAsNumberEndWrong : ChangeSpec := { name := "fnBeginValueReadsNumbersAsNumberEnd", fn := fun _ => fun
  | [d1, d2] => { results := [.lit (.bool false)], args := [d1, d2] }
  | _ => none }
def FnBeginValueReadsNumbersAsNumberEndWrongFalsely : Prop := fnBeginValueReadsNumbersAsNumberEndRow.holds Try.pinned (OpenSpec.ofChange fnBeginValueReadsNumbersAsNumberEndWrong)

end Rows
end Go.Proofs.Qxb6602575a
