/-
  No cell of these rows narrows 'for every input' (looked for: loops, veiled, ifaces, maps, wideKeys, modest, calm, conditions, laid).
  DERIVED. THE GIVEN ROWS OF THIS SEAT. 6 by the template 'for every input the law returns true; each argument reads behind the call as it read before'; 0 by the template 'total and deterministic' (their statements: Qxb6602755aTotals.lean).
  GIVEN WITH THE SEED: the statements are not yours to turn. If you find one false, say at which input.
  Laid BY PROGRAM, IN A SANDBOX (cutbox-rows.mjs): the forced cells as the released guide's own fill.sh prints them over the translation 62d8e92c7b28266e… (all of the seat's roots in one cut). By AI agents, Wed Nov 11 2026. No macro, syntax, notation, axiom, sorry.
-/
import Derived.Test.Qxb6602755aChecked
import GoSem.Claim
import GoSem.ClaimJoined
import GoSem.ClaimMapViews
import Derived.JoinedTies
import Derived.KernelRfl
namespace Go.Proofs.Qxb6602755a
/- THE CELL 'sum', in the pinned program and in every row, IS THE sha256 OF THE DUMP (.gsa) THAT Qxb6602755aProg.lean LOADS. Nothing in Lean hashes anything: it is a label: what it is worth is what the hold of that sum in a sandbox is worth. -/
noncomputable def Try.pinned : Pinned := { name := "qxb6602755a", sum := "62d8e92c7b28266eb3f010b7fd52cc5f4ac03ba162b1ab42b06a133d24ae03c1", checked := Try.checked }
namespace Rows
def none {H : Type} : Left H := { results := [], args := [] }

/-- 'zzlaws_root_b1.FnLiteralEndAgreesWithNumberAutomaton': WHATEVER THE INPUT: true; the input reads as it did. -/
def fnLiteralEndAgreesWithNumberAutomatonSpec : ChangeSpec := { name := "fnLiteralEndAgreesWithNumberAutomaton", fn := fun _ => fun
  | [d1, d2] => { results := [.lit (.bool true)], args := [d1, d2] }
  | _ => none }
def fnLiteralEndAgreesWithNumberAutomatonRow : OpenClaim := { program := "qxb6602755a", sum := "62d8e92c7b28266eb3f010b7fd52cc5f4ac03ba162b1ab42b06a133d24ae03c1", func := "example.com/warrant/warrant/zzlaws_root_b1.FnLiteralEndAgreesWithNumberAutomaton", spec := "fnLiteralEndAgreesWithNumberAutomaton", unfollowed := true, recurses := true, apart := false }
def FnLiteralEndAgreesWithNumberAutomatonSaid : Prop := fnLiteralEndAgreesWithNumberAutomatonRow.holds Try.pinned (OpenSpec.ofChange fnLiteralEndAgreesWithNumberAutomatonSpec)

/-- ITS FALSE NEIGHBOUR: 'it returns false'. Refute it at one input. -/
def fnLiteralEndAgreesWithNumberAutomatonWrong : ChangeSpec := { name := "fnLiteralEndAgreesWithNumberAutomaton", fn := fun _ => fun
  | [d1, d2] => { results := [.lit (.bool false)], args := [d1, d2] }
  | _ => none }
def FnLiteralEndAgreesWithNumberAutomatonWrongFalsely : Prop := fnLiteralEndAgreesWithNumberAutomatonRow.holds Try.pinned (OpenSpec.ofChange fnLiteralEndAgreesWithNumberAutomatonWrong)

/-- 'zzlaws_root_b1.FnLiteralEndReadsOnlyItsSpan': WHATEVER THE INPUT: true; the input reads as it did. -/
def fnLiteralEndReadsOnlyItsSpanSpec : ChangeSpec := { name := "fnLiteralEndReadsOnlyItsSpan", fn := fun _ => fun
  | [d1, d2] => { results := [.lit (.bool true)], args := [d1, d2] }
  | _ => none }
def fnLiteralEndReadsOnlyItsSpanRow : OpenClaim := { program := "qxb6602755a", sum := "62d8e92c7b28266eb3f010b7fd52cc5f4ac03ba162b1ab42b06a133d24ae03c1", func := "example.com/warrant/warrant/zzlaws_root_b1.FnLiteralEndReadsOnlyItsSpan", spec := "fnLiteralEndReadsOnlyItsSpan", unfollowed := true, recurses := true, apart := false }
def FnLiteralEndReadsOnlyItsSpanSaid : Prop := fnLiteralEndReadsOnlyItsSpanRow.holds Try.pinned (OpenSpec.ofChange fnLiteralEndReadsOnlyItsSpanSpec)

/-- ITS FALSE NEIGHBOUR: 'it returns false'. Refute it at one input. -/
def fnLiteralEndReadsOnlyItsSpanWrong : ChangeSpec := { name := "fnLiteralEndReadsOnlyItsSpan", fn := fun _ => fun
  | [d1, d2] => { results := [.lit (.bool false)], args := [d1, d2] }
  | _ => none }
def FnLiteralEndReadsOnlyItsSpanWrongFalsely : Prop := fnLiteralEndReadsOnlyItsSpanRow.holds Try.pinned (OpenSpec.ofChange fnLiteralEndReadsOnlyItsSpanWrong)

/-- 'zzlaws_root_b1.FnLiteralEndReadsIntegerTextsAndWords': WHATEVER THE INPUT: true; the input reads as it did. -/
def fnLiteralEndReadsIntegerTextsAndWordsSpec : ChangeSpec := { name := "fnLiteralEndReadsIntegerTextsAndWords", fn := fun _ => fun
  | [d1, d2] => { results := [.lit (.bool true)], args := [d1, d2] }
  | _ => none }
def fnLiteralEndReadsIntegerTextsAndWordsRow : OpenClaim := { program := "qxb6602755a", sum := "62d8e92c7b28266eb3f010b7fd52cc5f4ac03ba162b1ab42b06a133d24ae03c1", func := "example.com/warrant/warrant/zzlaws_root_b1.FnLiteralEndReadsIntegerTextsAndWords", spec := "fnLiteralEndReadsIntegerTextsAndWords", unfollowed := true, recurses := true, apart := false }
def FnLiteralEndReadsIntegerTextsAndWordsSaid : Prop := fnLiteralEndReadsIntegerTextsAndWordsRow.holds Try.pinned (OpenSpec.ofChange fnLiteralEndReadsIntegerTextsAndWordsSpec)

/-- ITS FALSE NEIGHBOUR: 'it returns false'. Refute it at one input. -/
def fnLiteralEndReadsIntegerTextsAndWordsWrong : ChangeSpec := { name := "fnLiteralEndReadsIntegerTextsAndWords", fn := fun _ => fun
  | [d1, d2] => { results := [.lit (.bool false)], args := [d1, d2] }
  | _ => none }
def FnLiteralEndReadsIntegerTextsAndWordsWrongFalsely : Prop := fnLiteralEndReadsIntegerTextsAndWordsRow.holds Try.pinned (OpenSpec.ofChange fnLiteralEndReadsIntegerTextsAndWordsWrong)

/-- 'zzlaws_root_b1.FnStringMatchesEscapeAutomaton': WHATEVER THE INPUT: true; the input reads as it did. -/
def fnStringMatchesEscapeAutomatonSpec : ChangeSpec := { name := "fnStringMatchesEscapeAutomaton", fn := fun _ => fun
  | [d1, d2] => { results := [.lit (.bool true)], args := [d1, d2] }
  | _ => none }
def fnStringMatchesEscapeAutomatonRow : OpenClaim := { program := "qxb6602755a", sum := "62d8e92c7b28266eb3f010b7fd52cc5f4ac03ba162b1ab42b06a133d24ae03c1", func := "example.com/warrant/warrant/zzlaws_root_b1.FnStringMatchesEscapeAutomaton", spec := "fnStringMatchesEscapeAutomaton", inPlace := ["internal/abi.NoEscape"], apart := false }
def FnStringMatchesEscapeAutomatonSaid : Prop := fnStringMatchesEscapeAutomatonRow.holds Try.pinned (OpenSpec.ofChange fnStringMatchesEscapeAutomatonSpec)

/-- ITS FALSE NEIGHBOUR: 'it returns false'. Refute it at one input. -/
def fnStringMatchesEscapeAutomatonWrong : ChangeSpec := { name := "fnStringMatchesEscapeAutomaton", fn := fun _ => fun
  | [d1, d2] => { results := [.lit (.bool false)], args := [d1, d2] }
  | _ => none }
def FnStringMatchesEscapeAutomatonWrongFalsely : Prop := fnStringMatchesEscapeAutomatonRow.holds Try.pinned (OpenSpec.ofChange fnStringMatchesEscapeAutomatonWrong)

/-- 'zzlaws_root_b1.FnStringReadsBackQuotedText': WHATEVER THE INPUT: true; the input reads as it did. -/
def fnStringReadsBackQuotedTextSpec : ChangeSpec := { name := "fnStringReadsBackQuotedText", fn := fun _ => fun
  | [d1, d2] => { results := [.lit (.bool true)], args := [d1, d2] }
  | _ => none }
def fnStringReadsBackQuotedTextRow : OpenClaim := { program := "qxb6602755a", sum := "62d8e92c7b28266eb3f010b7fd52cc5f4ac03ba162b1ab42b06a133d24ae03c1", func := "example.com/warrant/warrant/zzlaws_root_b1.FnStringReadsBackQuotedText", spec := "fnStringReadsBackQuotedText", inPlace := ["internal/abi.NoEscape"], apart := false }
def FnStringReadsBackQuotedTextSaid : Prop := fnStringReadsBackQuotedTextRow.holds Try.pinned (OpenSpec.ofChange fnStringReadsBackQuotedTextSpec)

/-- ITS FALSE NEIGHBOUR: 'it returns false'. Refute it at one input. -/
def fnStringReadsBackQuotedTextWrong : ChangeSpec := { name := "fnStringReadsBackQuotedText", fn := fun _ => fun
  | [d1, d2] => { results := [.lit (.bool false)], args := [d1, d2] }
  | _ => none }
def FnStringReadsBackQuotedTextWrongFalsely : Prop := fnStringReadsBackQuotedTextRow.holds Try.pinned (OpenSpec.ofChange fnStringReadsBackQuotedTextWrong)

/-- 'zzlaws_root_b1.FnStringIsLocalAndBounded': WHATEVER THE INPUT: true; the input reads as it did. -/
def fnStringIsLocalAndBoundedSpec : ChangeSpec := { name := "fnStringIsLocalAndBounded", fn := fun _ => fun
  | [d1, d2] => { results := [.lit (.bool true)], args := [d1, d2] }
  | _ => none }
def fnStringIsLocalAndBoundedRow : OpenClaim := { program := "qxb6602755a", sum := "62d8e92c7b28266eb3f010b7fd52cc5f4ac03ba162b1ab42b06a133d24ae03c1", func := "example.com/warrant/warrant/zzlaws_root_b1.FnStringIsLocalAndBounded", spec := "fnStringIsLocalAndBounded", inPlace := ["internal/abi.NoEscape"], apart := false }
def FnStringIsLocalAndBoundedSaid : Prop := fnStringIsLocalAndBoundedRow.holds Try.pinned (OpenSpec.ofChange fnStringIsLocalAndBoundedSpec)

/-- ITS FALSE NEIGHBOUR: 'it returns false'. Refute it at one input. -/
def fnStringIsLocalAndBoundedWrong : ChangeSpec := { name := "fnStringIsLocalAndBounded", fn := fun _ => fun
  | [d1, d2] => { results := [.lit (.bool false)], args := [d1, d2] }
  | _ => none }
def FnStringIsLocalAndBoundedWrongFalsely : Prop := fnStringIsLocalAndBoundedRow.holds Try.pinned (OpenSpec.ofChange fnStringIsLocalAndBoundedWrong)

end Rows
end Go.Proofs.Qxb6602755a
