/-
  No cell of these rows narrows 'for every input' (looked for: loops, veiled, ifaces, maps, wideKeys, modest, calm, conditions, laid).
  DERIVED. THE GIVEN ROWS OF THIS SEAT. 6 by the template 'for every input the law returns true; each argument reads behind the call as it read before'; 0 by the template 'total and deterministic' (their statements: Qxb6605590aTotals.lean).
  GIVEN WITH THE SEED: the statements are not yours to turn. If you find one false, say at which input.
  Laid BY PROGRAM, IN A SANDBOX (cutbox-rows.mjs): the forced cells as the released guide's own fill.sh prints them over the translation 7019a93af9b53f0d… (all of the seat's roots in one cut). By AI agents, Wed Nov 11 2026. No macro, syntax, notation, axiom, sorry.
-/
import Derived.Test.Qxb6605590aChecked
import GoSem.Claim
import GoSem.ClaimJoined
import GoSem.ClaimMapViews
import Derived.JoinedTies
import Derived.KernelRfl
namespace Go.Proofs.Qxb6605590a
/- THE CELL 'sum', in the pinned program and in every row, IS THE sha256 OF THE DUMP (.gsa) THAT Qxb6605590aProg.lean LOADS. Nothing in Lean hashes anything: it is a label: what it is worth is what the hold of that sum in a sandbox is worth. -/
noncomputable def Try.pinned : Pinned := { name := "qxb6605590a", sum := "7019a93af9b53f0d9a87eac32ab72eeee7403e0cbfe7fac8973d4b9a6529af21", checked := Try.checked }
namespace Rows
def none {H : Type} : Left H := { results := [], args := [] }

/-- 'zzlaws_pkg_sql_b1.FnSkipSpaceAndCommentsShiftsAndStopsAtAToken': WHATEVER THE INPUT: true; the input reads as it did. -/
def fnSkipSpaceAndCommentsShiftsAndStopsAtATokenSpec : ChangeSpec := { name := "fnSkipSpaceAndCommentsShiftsAndStopsAtAToken", fn := fun _ => fun
  | [d1, d2, d3] => { results := [.lit (.bool true)], args := [d1, d2, d3] }
  | _ => none }
def fnSkipSpaceAndCommentsShiftsAndStopsAtATokenRow : OpenClaim := { program := "qxb6605590a", sum := "7019a93af9b53f0d9a87eac32ab72eeee7403e0cbfe7fac8973d4b9a6529af21", func := "example.com/chronoshard/chronoshard/zzlaws_pkg_sql_b1.FnSkipSpaceAndCommentsShiftsAndStopsAtAToken", spec := "fnSkipSpaceAndCommentsShiftsAndStopsAtAToken", inPlace := ["internal/bytealg.IndexByteString"], apart := false }
def FnSkipSpaceAndCommentsShiftsAndStopsAtATokenSaid : Prop := fnSkipSpaceAndCommentsShiftsAndStopsAtATokenRow.holds Try.pinned (OpenSpec.ofChange fnSkipSpaceAndCommentsShiftsAndStopsAtATokenSpec)

/-- ITS FALSE NEIGHBOUR: 'it returns false'. Refute it at one input. -/
def fnSkipSpaceAndCommentsShiftsAndStopsAtATokenWrong : ChangeSpec := { name := "fnSkipSpaceAndCommentsShiftsAndStopsAtAToken", fn := fun _ => fun
  | [d1, d2, d3] => { results := [.lit (.bool false)], args := [d1, d2, d3] }
  | _ => none }
def FnSkipSpaceAndCommentsShiftsAndStopsAtATokenWrongFalsely : Prop := fnSkipSpaceAndCommentsShiftsAndStopsAtATokenRow.holds Try.pinned (OpenSpec.ofChange fnSkipSpaceAndCommentsShiftsAndStopsAtATokenWrong)

/-- 'zzlaws_pkg_sql_b1.FnLexQuotedMatchesByteScanner': WHATEVER THE INPUT: true; the input reads as it did. -/
def fnLexQuotedMatchesByteScannerSpec : ChangeSpec := { name := "fnLexQuotedMatchesByteScanner", fn := fun _ => fun
  | [d1, d2, d3] => { results := [.lit (.bool true)], args := [d1, d2, d3] }
  | _ => none }
def fnLexQuotedMatchesByteScannerRow : OpenClaim := { program := "qxb6605590a", sum := "7019a93af9b53f0d9a87eac32ab72eeee7403e0cbfe7fac8973d4b9a6529af21", func := "example.com/chronoshard/chronoshard/zzlaws_pkg_sql_b1.FnLexQuotedMatchesByteScanner", spec := "fnLexQuotedMatchesByteScanner", inPlace := ["internal/bytealg.IndexByteString", "internal/abi.NoEscape"], apart := false }
def FnLexQuotedMatchesByteScannerSaid : Prop := fnLexQuotedMatchesByteScannerRow.holds Try.pinned (OpenSpec.ofChange fnLexQuotedMatchesByteScannerSpec)

/-- ITS FALSE NEIGHBOUR: 'it returns false'. Refute it at one input. -/
def fnLexQuotedMatchesByteScannerWrong : ChangeSpec := { name := "fnLexQuotedMatchesByteScanner", fn := fun _ => fun
  | [d1, d2, d3] => { results := [.lit (.bool false)], args := [d1, d2, d3] }
  | _ => none }
def FnLexQuotedMatchesByteScannerWrongFalsely : Prop := fnLexQuotedMatchesByteScannerRow.holds Try.pinned (OpenSpec.ofChange fnLexQuotedMatchesByteScannerWrong)

/-- 'zzlaws_pkg_sql_b1.FnLexQuotedReadsBackQuotedTextAndRefusesItUnclosed': WHATEVER THE INPUT: true; the input reads as it did. -/
def fnLexQuotedReadsBackQuotedTextAndRefusesItUnclosedSpec : ChangeSpec := { name := "fnLexQuotedReadsBackQuotedTextAndRefusesItUnclosed", fn := fun _ => fun
  | [d1, d2, d3, d4] => { results := [.lit (.bool true)], args := [d1, d2, d3, d4] }
  | _ => none }
def fnLexQuotedReadsBackQuotedTextAndRefusesItUnclosedRow : OpenClaim := { program := "qxb6605590a", sum := "7019a93af9b53f0d9a87eac32ab72eeee7403e0cbfe7fac8973d4b9a6529af21", func := "example.com/chronoshard/chronoshard/zzlaws_pkg_sql_b1.FnLexQuotedReadsBackQuotedTextAndRefusesItUnclosed", spec := "fnLexQuotedReadsBackQuotedTextAndRefusesItUnclosed", inPlace := ["internal/bytealg.IndexByteString", "internal/abi.NoEscape"], apart := false }
def FnLexQuotedReadsBackQuotedTextAndRefusesItUnclosedSaid : Prop := fnLexQuotedReadsBackQuotedTextAndRefusesItUnclosedRow.holds Try.pinned (OpenSpec.ofChange fnLexQuotedReadsBackQuotedTextAndRefusesItUnclosedSpec)

/-- ITS FALSE NEIGHBOUR: 'it returns false'. Refute it at one input. -/
def fnLexQuotedReadsBackQuotedTextAndRefusesItUnclosedWrong : ChangeSpec := { name := "fnLexQuotedReadsBackQuotedTextAndRefusesItUnclosed", fn := fun _ => fun
  | [d1, d2, d3, d4] => { results := [.lit (.bool false)], args := [d1, d2, d3, d4] }
  | _ => none }
def FnLexQuotedReadsBackQuotedTextAndRefusesItUnclosedWrongFalsely : Prop := fnLexQuotedReadsBackQuotedTextAndRefusesItUnclosedRow.holds Try.pinned (OpenSpec.ofChange fnLexQuotedReadsBackQuotedTextAndRefusesItUnclosedWrong)

/-- 'zzlaws_pkg_sql_b1.FnLowerASCIIMatchesAlphabetTable': WHATEVER THE INPUT: true; the input reads as it did. -/
def fnLowerASCIIMatchesAlphabetTableSpec : ChangeSpec := { name := "fnLowerASCIIMatchesAlphabetTable", fn := fun _ => fun
  | [d] => { results := [.lit (.bool true)], args := [d] }
  | _ => none }
def fnLowerASCIIMatchesAlphabetTableRow : OpenClaim := { program := "qxb6605590a", sum := "7019a93af9b53f0d9a87eac32ab72eeee7403e0cbfe7fac8973d4b9a6529af21", func := "example.com/chronoshard/chronoshard/zzlaws_pkg_sql_b1.FnLowerASCIIMatchesAlphabetTable", spec := "fnLowerASCIIMatchesAlphabetTable", apart := false }
def FnLowerASCIIMatchesAlphabetTableSaid : Prop := fnLowerASCIIMatchesAlphabetTableRow.holds Try.pinned (OpenSpec.ofChange fnLowerASCIIMatchesAlphabetTableSpec)

/-- ITS FALSE NEIGHBOUR: 'it returns false'. Refute it at one input. -/
def fnLowerASCIIMatchesAlphabetTableWrong : ChangeSpec := { name := "fnLowerASCIIMatchesAlphabetTable", fn := fun _ => fun
  | [d] => { results := [.lit (.bool false)], args := [d] }
  | _ => none }
def FnLowerASCIIMatchesAlphabetTableWrongFalsely : Prop := fnLowerASCIIMatchesAlphabetTableRow.holds Try.pinned (OpenSpec.ofChange fnLowerASCIIMatchesAlphabetTableWrong)

/-- 'zzlaws_pkg_sql_b1.FnLowerASCIIForgetsCaseAndIsIdempotent': WHATEVER THE INPUT: true; the input reads as it did. -/
def fnLowerASCIIForgetsCaseAndIsIdempotentSpec : ChangeSpec := { name := "fnLowerASCIIForgetsCaseAndIsIdempotent", fn := fun _ => fun
  | [d] => { results := [.lit (.bool true)], args := [d] }
  | _ => none }
def fnLowerASCIIForgetsCaseAndIsIdempotentRow : OpenClaim := { program := "qxb6605590a", sum := "7019a93af9b53f0d9a87eac32ab72eeee7403e0cbfe7fac8973d4b9a6529af21", func := "example.com/chronoshard/chronoshard/zzlaws_pkg_sql_b1.FnLowerASCIIForgetsCaseAndIsIdempotent", spec := "fnLowerASCIIForgetsCaseAndIsIdempotent", apart := false }
def FnLowerASCIIForgetsCaseAndIsIdempotentSaid : Prop := fnLowerASCIIForgetsCaseAndIsIdempotentRow.holds Try.pinned (OpenSpec.ofChange fnLowerASCIIForgetsCaseAndIsIdempotentSpec)

/-- ITS FALSE NEIGHBOUR: 'it returns false'. Refute it at one input. -/
def fnLowerASCIIForgetsCaseAndIsIdempotentWrong : ChangeSpec := { name := "fnLowerASCIIForgetsCaseAndIsIdempotent", fn := fun _ => fun
  | [d] => { results := [.lit (.bool false)], args := [d] }
  | _ => none }
def FnLowerASCIIForgetsCaseAndIsIdempotentWrongFalsely : Prop := fnLowerASCIIForgetsCaseAndIsIdempotentRow.holds Try.pinned (OpenSpec.ofChange fnLowerASCIIForgetsCaseAndIsIdempotentWrong)

/-- 'zzlaws_pkg_sql_b1.FnLowerASCIISplitsOverConcatenation': WHATEVER THE INPUT: true; the input reads as it did. -/
def fnLowerASCIISplitsOverConcatenationSpec : ChangeSpec := { name := "fnLowerASCIISplitsOverConcatenation", fn := fun _ => fun
  | [d1, d2] => { results := [.lit (.bool true)], args := [d1, d2] }
  | _ => none }
def fnLowerASCIISplitsOverConcatenationRow : OpenClaim := { program := "qxb6605590a", sum := "7019a93af9b53f0d9a87eac32ab72eeee7403e0cbfe7fac8973d4b9a6529af21", func := "example.com/chronoshard/chronoshard/zzlaws_pkg_sql_b1.FnLowerASCIISplitsOverConcatenation", spec := "fnLowerASCIISplitsOverConcatenation", apart := false }
def FnLowerASCIISplitsOverConcatenationSaid : Prop := fnLowerASCIISplitsOverConcatenationRow.holds Try.pinned (OpenSpec.ofChange fnLowerASCIISplitsOverConcatenationSpec)

/-- ITS FALSE NEIGHBOUR: 'it returns false'. Refute it at one input. -/
def fnLowerASCIISplitsOverConcatenationWrong : ChangeSpec := { name := "fnLowerASCIISplitsOverConcatenation", fn := fun _ => fun
  | [d1, d2] => { results := [.lit (.bool false)], args := [d1, d2] }
  | _ => none }
def FnLowerASCIISplitsOverConcatenationWrongFalsely : Prop := fnLowerASCIISplitsOverConcatenationRow.holds Try.pinned (OpenSpec.ofChange fnLowerASCIISplitsOverConcatenationWrong)

end Rows
end Go.Proofs.Qxb6605590a
