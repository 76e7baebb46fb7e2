/-
  No cell of these rows narrows 'for every input' (looked for: loops, veiled, ifaces, maps, wideKeys, modest, calm, conditions, laid).
  DERIVED. THE GIVEN ROWS OF THIS SEAT. 6 by the template 'for every input the law returns true; each argument reads behind the call as it read before'; 0 by the template 'total and deterministic' (their statements: Qxb6601003aTotals.lean).
  GIVEN WITH THE SEED: the statements are not yours to turn. If you find one false, say at which input.
  Laid BY PROGRAM, IN A SANDBOX (cutbox-rows.mjs): the forced cells as the released guide's own fill.sh prints them over the translation 37ba51918ca1a730… (all of the seat's roots in one cut). By AI agents, Wed Nov 11 2026. No macro, syntax, notation, axiom, sorry.
-/
import Derived.Test.Qxb6601003aChecked
import GoSem.Claim
import GoSem.ClaimJoined
import GoSem.ClaimMapViews
import Derived.JoinedTies
import Derived.KernelRfl
namespace Go.Proofs.Qxb6601003a
/- THE CELL 'sum', in the pinned program and in every row, IS THE sha256 OF THE DUMP (.gsa) THAT Qxb6601003aProg.lean LOADS. Nothing in Lean hashes anything: it is a label: what it is worth is what the hold of that sum in a sandbox is worth. -/
noncomputable def Try.pinned : Pinned := { name := "qxb6601003a", sum := "37ba51918ca1a730c81cf29bdb3726ea04fb59b92f4731bc4bac650c7ed55de3", checked := Try.checked }
namespace Rows
def none {H : Type} : Left H := { results := [], args := [] }

/-- 'zzlaws_pkg_journal_b1.FnHexDigitMatchesTable': WHATEVER THE INPUT: true; the input reads as it did. -/
def fnHexDigitMatchesTableSpec : ChangeSpec := { name := "fnHexDigitMatchesTable", fn := fun _ => fun
  | [d] => { results := [.lit (.bool true)], args := [d] }
  | _ => none }
def fnHexDigitMatchesTableRow : OpenClaim := { program := "qxb6601003a", sum := "37ba51918ca1a730c81cf29bdb3726ea04fb59b92f4731bc4bac650c7ed55de3", func := "example.com/holdfast/holdfast/zzlaws_pkg_journal_b1.FnHexDigitMatchesTable", spec := "fnHexDigitMatchesTable", apart := false }
def FnHexDigitMatchesTableSaid : Prop := fnHexDigitMatchesTableRow.holds Try.pinned (OpenSpec.ofChange fnHexDigitMatchesTableSpec)

/-- ITS FALSE NEIGHBOUR: 'it returns false'. Refute it at one input. -/
def fnHexDigitMatchesTableWrong : ChangeSpec := { name := "fnHexDigitMatchesTable", fn := fun _ => fun
  | [d] => { results := [.lit (.bool false)], args := [d] }
  | _ => none }
def FnHexDigitMatchesTableWrongFalsely : Prop := fnHexDigitMatchesTableRow.holds Try.pinned (OpenSpec.ofChange fnHexDigitMatchesTableWrong)

/-- 'zzlaws_pkg_journal_b1.FnHexDigitCaseFoldRoundTrip': WHATEVER THE INPUT: true; the input reads as it did. -/
def fnHexDigitCaseFoldRoundTripSpec : ChangeSpec := { name := "fnHexDigitCaseFoldRoundTrip", fn := fun _ => fun
  | [d] => { results := [.lit (.bool true)], args := [d] }
  | _ => none }
def fnHexDigitCaseFoldRoundTripRow : OpenClaim := { program := "qxb6601003a", sum := "37ba51918ca1a730c81cf29bdb3726ea04fb59b92f4731bc4bac650c7ed55de3", func := "example.com/holdfast/holdfast/zzlaws_pkg_journal_b1.FnHexDigitCaseFoldRoundTrip", spec := "fnHexDigitCaseFoldRoundTrip", apart := false }
def FnHexDigitCaseFoldRoundTripSaid : Prop := fnHexDigitCaseFoldRoundTripRow.holds Try.pinned (OpenSpec.ofChange fnHexDigitCaseFoldRoundTripSpec)

/-- ITS FALSE NEIGHBOUR: 'it returns false'. Refute it at one input. -/
def fnHexDigitCaseFoldRoundTripWrong : ChangeSpec := { name := "fnHexDigitCaseFoldRoundTrip", fn := fun _ => fun
  | [d] => { results := [.lit (.bool false)], args := [d] }
  | _ => none }
def FnHexDigitCaseFoldRoundTripWrongFalsely : Prop := fnHexDigitCaseFoldRoundTripRow.holds Try.pinned (OpenSpec.ofChange fnHexDigitCaseFoldRoundTripWrong)

/-- 'zzlaws_pkg_journal_b1.FnSpaceStopsAtFirstNonSpace': WHATEVER THE INPUT: true; the input reads as it did. -/
def fnSpaceStopsAtFirstNonSpaceSpec : ChangeSpec := { name := "fnSpaceStopsAtFirstNonSpace", fn := fun _ => fun
  | [d1, d2] => { results := [.lit (.bool true)], args := [d1, d2] }
  | _ => none }
def fnSpaceStopsAtFirstNonSpaceRow : OpenClaim := { program := "qxb6601003a", sum := "37ba51918ca1a730c81cf29bdb3726ea04fb59b92f4731bc4bac650c7ed55de3", func := "example.com/holdfast/holdfast/zzlaws_pkg_journal_b1.FnSpaceStopsAtFirstNonSpace", spec := "fnSpaceStopsAtFirstNonSpace", apart := false }
def FnSpaceStopsAtFirstNonSpaceSaid : Prop := fnSpaceStopsAtFirstNonSpaceRow.holds Try.pinned (OpenSpec.ofChange fnSpaceStopsAtFirstNonSpaceSpec)

/-- ITS FALSE NEIGHBOUR: 'it returns false'. Refute it at one input. -/
def fnSpaceStopsAtFirstNonSpaceWrong : ChangeSpec := { name := "fnSpaceStopsAtFirstNonSpace", fn := fun _ => fun
  | [d1, d2] => { results := [.lit (.bool false)], args := [d1, d2] }
  | _ => none }
def FnSpaceStopsAtFirstNonSpaceWrongFalsely : Prop := fnSpaceStopsAtFirstNonSpaceRow.holds Try.pinned (OpenSpec.ofChange fnSpaceStopsAtFirstNonSpaceWrong)

/-- 'zzlaws_pkg_journal_b1.FnSpaceSameLandingInsideRun': WHATEVER THE INPUT: true; the input reads as it did. -/
def fnSpaceSameLandingInsideRunSpec : ChangeSpec := { name := "fnSpaceSameLandingInsideRun", fn := fun _ => fun
  | [d1, d2, d3] => { results := [.lit (.bool true)], args := [d1, d2, d3] }
  | _ => none }
def fnSpaceSameLandingInsideRunRow : OpenClaim := { program := "qxb6601003a", sum := "37ba51918ca1a730c81cf29bdb3726ea04fb59b92f4731bc4bac650c7ed55de3", func := "example.com/holdfast/holdfast/zzlaws_pkg_journal_b1.FnSpaceSameLandingInsideRun", spec := "fnSpaceSameLandingInsideRun", apart := false }
def FnSpaceSameLandingInsideRunSaid : Prop := fnSpaceSameLandingInsideRunRow.holds Try.pinned (OpenSpec.ofChange fnSpaceSameLandingInsideRunSpec)

/-- ITS FALSE NEIGHBOUR: 'it returns false'. Refute it at one input. -/
def fnSpaceSameLandingInsideRunWrong : ChangeSpec := { name := "fnSpaceSameLandingInsideRun", fn := fun _ => fun
  | [d1, d2, d3] => { results := [.lit (.bool false)], args := [d1, d2, d3] }
  | _ => none }
def FnSpaceSameLandingInsideRunWrongFalsely : Prop := fnSpaceSameLandingInsideRunRow.holds Try.pinned (OpenSpec.ofChange fnSpaceSameLandingInsideRunWrong)

/-- 'zzlaws_pkg_journal_b1.FnFindFirstMatchOrNil': WHATEVER THE INPUT: true; the input reads as it did. -/
def fnFindFirstMatchOrNilSpec : ChangeSpec := { name := "fnFindFirstMatchOrNil", fn := fun _ => fun
  | [d1, d2, d3] => { results := [.lit (.bool true)], args := [d1, d2, d3] }
  | _ => none }
def fnFindFirstMatchOrNilRow : OpenClaim := { program := "qxb6601003a", sum := "37ba51918ca1a730c81cf29bdb3726ea04fb59b92f4731bc4bac650c7ed55de3", func := "example.com/holdfast/holdfast/zzlaws_pkg_journal_b1.FnFindFirstMatchOrNil", spec := "fnFindFirstMatchOrNil", apart := false }
def FnFindFirstMatchOrNilSaid : Prop := fnFindFirstMatchOrNilRow.holds Try.pinned (OpenSpec.ofChange fnFindFirstMatchOrNilSpec)

/-- ITS FALSE NEIGHBOUR: 'it returns false'. Refute it at one input. -/
def fnFindFirstMatchOrNilWrong : ChangeSpec := { name := "fnFindFirstMatchOrNil", fn := fun _ => fun
  | [d1, d2, d3] => { results := [.lit (.bool false)], args := [d1, d2, d3] }
  | _ => none }
def FnFindFirstMatchOrNilWrongFalsely : Prop := fnFindFirstMatchOrNilRow.holds Try.pinned (OpenSpec.ofChange fnFindFirstMatchOrNilWrong)

/-- 'zzlaws_pkg_journal_b1.FnFindFrontMemberWins': WHATEVER THE INPUT: true; the input reads as it did. -/
def fnFindFrontMemberWinsSpec : ChangeSpec := { name := "fnFindFrontMemberWins", fn := fun _ => fun
  | [d1, d2, d3, d4, d5] => { results := [.lit (.bool true)], args := [d1, d2, d3, d4, d5] }
  | _ => none }
def fnFindFrontMemberWinsRow : OpenClaim := { program := "qxb6601003a", sum := "37ba51918ca1a730c81cf29bdb3726ea04fb59b92f4731bc4bac650c7ed55de3", func := "example.com/holdfast/holdfast/zzlaws_pkg_journal_b1.FnFindFrontMemberWins", spec := "fnFindFrontMemberWins", apart := false }
def FnFindFrontMemberWinsSaid : Prop := fnFindFrontMemberWinsRow.holds Try.pinned (OpenSpec.ofChange fnFindFrontMemberWinsSpec)

/-- ITS FALSE NEIGHBOUR: 'it returns false'. Refute it at one input. -/
def fnFindFrontMemberWinsWrong : ChangeSpec := { name := "fnFindFrontMemberWins", fn := fun _ => fun
  | [d1, d2, d3, d4, d5] => { results := [.lit (.bool false)], args := [d1, d2, d3, d4, d5] }
  | _ => none }
def FnFindFrontMemberWinsWrongFalsely : Prop := fnFindFrontMemberWinsRow.holds Try.pinned (OpenSpec.ofChange fnFindFrontMemberWinsWrong)

end Rows
end Go.Proofs.Qxb6601003a
