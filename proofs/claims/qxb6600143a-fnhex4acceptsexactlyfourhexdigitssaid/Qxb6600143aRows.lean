/-
  No cell of these rows narrows 'for every input' (looked for: loops, veiled, ifaces, maps, wideKeys, modest, calm, conditions, laid).
  DERIVED. THE GIVEN ROWS OF THIS SEAT. 9 by the template 'for every input the law returns true; each argument reads behind the call as it read before'; 0 by the template 'total and deterministic' (their statements: Qxb6600143aTotals.lean).
  GIVEN WITH THE SEED: the statements are not yours to turn. If you find one false, say at which input.
  Laid BY PROGRAM, IN A SANDBOX (cutbox-rows.mjs): the forced cells as the released guide's own fill.sh prints them over the translation 58bb56235f79ce06… (all of the seat's roots in one cut). By AI agents, Wed Nov 11 2026. No macro, syntax, notation, axiom, sorry.
-/
import Derived.Test.Qxb6600143aChecked
import GoSem.Claim
import GoSem.ClaimJoined
import GoSem.ClaimMapViews
import Derived.JoinedTies
import Derived.KernelRfl
namespace Go.Proofs.Qxb6600143a
/- THE CELL 'sum', in the pinned program and in every row, IS THE sha256 OF THE DUMP (.gsa) THAT Qxb6600143aProg.lean LOADS. Nothing in Lean hashes anything: it is a label: what it is worth is what the hold of that sum in a sandbox is worth. -/
noncomputable def Try.pinned : Pinned := { name := "qxb6600143a", sum := "58bb56235f79ce06ff5b448a789eb5b416ea80938d98ae69667b55736f2e9bf8", checked := Try.checked }
namespace Rows
def none {H : Type} : Left H := { results := [], args := [] }

/-- 'zzlaws_internal_ledger_b1.FnIsDigitsConcat': WHATEVER THE INPUT: true; the input reads as it did. -/
def fnIsDigitsConcatSpec : ChangeSpec := { name := "fnIsDigitsConcat", fn := fun _ => fun
  | [d1, d2] => { results := [.lit (.bool true)], args := [d1, d2] }
  | _ => none }
def fnIsDigitsConcatRow : OpenClaim := { program := "qxb6600143a", sum := "58bb56235f79ce06ff5b448a789eb5b416ea80938d98ae69667b55736f2e9bf8", func := "example.com/tenorbook/tenorbook/zzlaws_internal_ledger_b1.FnIsDigitsConcat", spec := "fnIsDigitsConcat", apart := false }
def FnIsDigitsConcatSaid : Prop := fnIsDigitsConcatRow.holds Try.pinned (OpenSpec.ofChange fnIsDigitsConcatSpec)

/-- ITS FALSE NEIGHBOUR: 'it returns false'. Refute it at one input. -/
def fnIsDigitsConcatWrong : ChangeSpec := { name := "fnIsDigitsConcat", fn := fun _ => fun
  | [d1, d2] => { results := [.lit (.bool false)], args := [d1, d2] }
  | _ => none }
def FnIsDigitsConcatWrongFalsely : Prop := fnIsDigitsConcatRow.holds Try.pinned (OpenSpec.ofChange fnIsDigitsConcatWrong)

/-- 'zzlaws_internal_ledger_b1.FnIsDigitsRefusesAnyNonDigit': WHATEVER THE INPUT: true; the input reads as it did. -/
def fnIsDigitsRefusesAnyNonDigitSpec : ChangeSpec := { name := "fnIsDigitsRefusesAnyNonDigit", fn := fun _ => fun
  | [d1, d2, d3] => { results := [.lit (.bool true)], args := [d1, d2, d3] }
  | _ => none }
def fnIsDigitsRefusesAnyNonDigitRow : OpenClaim := { program := "qxb6600143a", sum := "58bb56235f79ce06ff5b448a789eb5b416ea80938d98ae69667b55736f2e9bf8", func := "example.com/tenorbook/tenorbook/zzlaws_internal_ledger_b1.FnIsDigitsRefusesAnyNonDigit", spec := "fnIsDigitsRefusesAnyNonDigit", apart := false }
def FnIsDigitsRefusesAnyNonDigitSaid : Prop := fnIsDigitsRefusesAnyNonDigitRow.holds Try.pinned (OpenSpec.ofChange fnIsDigitsRefusesAnyNonDigitSpec)

/-- ITS FALSE NEIGHBOUR: 'it returns false'. Refute it at one input. -/
def fnIsDigitsRefusesAnyNonDigitWrong : ChangeSpec := { name := "fnIsDigitsRefusesAnyNonDigit", fn := fun _ => fun
  | [d1, d2, d3] => { results := [.lit (.bool false)], args := [d1, d2, d3] }
  | _ => none }
def FnIsDigitsRefusesAnyNonDigitWrongFalsely : Prop := fnIsDigitsRefusesAnyNonDigitRow.holds Try.pinned (OpenSpec.ofChange fnIsDigitsRefusesAnyNonDigitWrong)

/-- 'zzlaws_internal_ledger_b1.FnIsDigitsAcceptsEveryDecimal': WHATEVER THE INPUT: true; the input reads as it did. -/
def fnIsDigitsAcceptsEveryDecimalSpec : ChangeSpec := { name := "fnIsDigitsAcceptsEveryDecimal", fn := fun _ => fun
  | [d1, d2] => { results := [.lit (.bool true)], args := [d1, d2] }
  | _ => none }
def fnIsDigitsAcceptsEveryDecimalRow : OpenClaim := { program := "qxb6600143a", sum := "58bb56235f79ce06ff5b448a789eb5b416ea80938d98ae69667b55736f2e9bf8", func := "example.com/tenorbook/tenorbook/zzlaws_internal_ledger_b1.FnIsDigitsAcceptsEveryDecimal", spec := "fnIsDigitsAcceptsEveryDecimal", apart := false }
def FnIsDigitsAcceptsEveryDecimalSaid : Prop := fnIsDigitsAcceptsEveryDecimalRow.holds Try.pinned (OpenSpec.ofChange fnIsDigitsAcceptsEveryDecimalSpec)

/-- ITS FALSE NEIGHBOUR: 'it returns false'. Refute it at one input. -/
def fnIsDigitsAcceptsEveryDecimalWrong : ChangeSpec := { name := "fnIsDigitsAcceptsEveryDecimal", fn := fun _ => fun
  | [d1, d2] => { results := [.lit (.bool false)], args := [d1, d2] }
  | _ => none }
def FnIsDigitsAcceptsEveryDecimalWrongFalsely : Prop := fnIsDigitsAcceptsEveryDecimalRow.holds Try.pinned (OpenSpec.ofChange fnIsDigitsAcceptsEveryDecimalWrong)

/-- 'zzlaws_internal_ledger_b1.FnSkipSpaceStopsAtFirstNonSpace': WHATEVER THE INPUT: true; the input reads as it did. -/
def fnSkipSpaceStopsAtFirstNonSpaceSpec : ChangeSpec := { name := "fnSkipSpaceStopsAtFirstNonSpace", fn := fun _ => fun
  | [d1, d2] => { results := [.lit (.bool true)], args := [d1, d2] }
  | _ => none }
def fnSkipSpaceStopsAtFirstNonSpaceRow : OpenClaim := { program := "qxb6600143a", sum := "58bb56235f79ce06ff5b448a789eb5b416ea80938d98ae69667b55736f2e9bf8", func := "example.com/tenorbook/tenorbook/zzlaws_internal_ledger_b1.FnSkipSpaceStopsAtFirstNonSpace", spec := "fnSkipSpaceStopsAtFirstNonSpace", apart := false }
def FnSkipSpaceStopsAtFirstNonSpaceSaid : Prop := fnSkipSpaceStopsAtFirstNonSpaceRow.holds Try.pinned (OpenSpec.ofChange fnSkipSpaceStopsAtFirstNonSpaceSpec)

/-- ITS FALSE NEIGHBOUR: 'it returns false'. Refute it at one input. -/
def fnSkipSpaceStopsAtFirstNonSpaceWrong : ChangeSpec := { name := "fnSkipSpaceStopsAtFirstNonSpace", fn := fun _ => fun
  | [d1, d2] => { results := [.lit (.bool false)], args := [d1, d2] }
  | _ => none }
def FnSkipSpaceStopsAtFirstNonSpaceWrongFalsely : Prop := fnSkipSpaceStopsAtFirstNonSpaceRow.holds Try.pinned (OpenSpec.ofChange fnSkipSpaceStopsAtFirstNonSpaceWrong)

/-- 'zzlaws_internal_ledger_b1.FnSkipSpaceIdempotent': WHATEVER THE INPUT: true; the input reads as it did. -/
def fnSkipSpaceIdempotentSpec : ChangeSpec := { name := "fnSkipSpaceIdempotent", fn := fun _ => fun
  | [d1, d2] => { results := [.lit (.bool true)], args := [d1, d2] }
  | _ => none }
def fnSkipSpaceIdempotentRow : OpenClaim := { program := "qxb6600143a", sum := "58bb56235f79ce06ff5b448a789eb5b416ea80938d98ae69667b55736f2e9bf8", func := "example.com/tenorbook/tenorbook/zzlaws_internal_ledger_b1.FnSkipSpaceIdempotent", spec := "fnSkipSpaceIdempotent", apart := false }
def FnSkipSpaceIdempotentSaid : Prop := fnSkipSpaceIdempotentRow.holds Try.pinned (OpenSpec.ofChange fnSkipSpaceIdempotentSpec)

/-- ITS FALSE NEIGHBOUR: 'it returns false'. Refute it at one input. -/
def fnSkipSpaceIdempotentWrong : ChangeSpec := { name := "fnSkipSpaceIdempotent", fn := fun _ => fun
  | [d1, d2] => { results := [.lit (.bool false)], args := [d1, d2] }
  | _ => none }
def FnSkipSpaceIdempotentWrongFalsely : Prop := fnSkipSpaceIdempotentRow.holds Try.pinned (OpenSpec.ofChange fnSkipSpaceIdempotentWrong)

/-- 'zzlaws_internal_ledger_b1.FnSkipSpaceMonotone': WHATEVER THE INPUT: true; the input reads as it did. -/
def fnSkipSpaceMonotoneSpec : ChangeSpec := { name := "fnSkipSpaceMonotone", fn := fun _ => fun
  | [d1, d2, d3] => { results := [.lit (.bool true)], args := [d1, d2, d3] }
  | _ => none }
def fnSkipSpaceMonotoneRow : OpenClaim := { program := "qxb6600143a", sum := "58bb56235f79ce06ff5b448a789eb5b416ea80938d98ae69667b55736f2e9bf8", func := "example.com/tenorbook/tenorbook/zzlaws_internal_ledger_b1.FnSkipSpaceMonotone", spec := "fnSkipSpaceMonotone", apart := false }
def FnSkipSpaceMonotoneSaid : Prop := fnSkipSpaceMonotoneRow.holds Try.pinned (OpenSpec.ofChange fnSkipSpaceMonotoneSpec)

/-- ITS FALSE NEIGHBOUR: 'it returns false'. Refute it at one input. -/
def fnSkipSpaceMonotoneWrong : ChangeSpec := { name := "fnSkipSpaceMonotone", fn := fun _ => fun
  | [d1, d2, d3] => { results := [.lit (.bool false)], args := [d1, d2, d3] }
  | _ => none }
def FnSkipSpaceMonotoneWrongFalsely : Prop := fnSkipSpaceMonotoneRow.holds Try.pinned (OpenSpec.ofChange fnSkipSpaceMonotoneWrong)

/-- 'zzlaws_internal_ledger_b1.FnHex4RoundTrip': WHATEVER THE INPUT: true; the input reads as it did. -/
def fnHex4RoundTripSpec : ChangeSpec := { name := "fnHex4RoundTrip", fn := fun _ => fun
  | [d1, d2, d3, d4] => { results := [.lit (.bool true)], args := [d1, d2, d3, d4] }
  | _ => none }
def fnHex4RoundTripRow : OpenClaim := { program := "qxb6600143a", sum := "58bb56235f79ce06ff5b448a789eb5b416ea80938d98ae69667b55736f2e9bf8", func := "example.com/tenorbook/tenorbook/zzlaws_internal_ledger_b1.FnHex4RoundTrip", spec := "fnHex4RoundTrip", apart := false }
def FnHex4RoundTripSaid : Prop := fnHex4RoundTripRow.holds Try.pinned (OpenSpec.ofChange fnHex4RoundTripSpec)

/-- ITS FALSE NEIGHBOUR: 'it returns false'. Refute it at one input. -/
def fnHex4RoundTripWrong : ChangeSpec := { name := "fnHex4RoundTrip", fn := fun _ => fun
  | [d1, d2, d3, d4] => { results := [.lit (.bool false)], args := [d1, d2, d3, d4] }
  | _ => none }
def FnHex4RoundTripWrongFalsely : Prop := fnHex4RoundTripRow.holds Try.pinned (OpenSpec.ofChange fnHex4RoundTripWrong)

/-- 'zzlaws_internal_ledger_b1.FnHex4AcceptsExactlyFourHexDigits': WHATEVER THE INPUT: true; the input reads as it did. -/
def fnHex4AcceptsExactlyFourHexDigitsSpec : ChangeSpec := { name := "fnHex4AcceptsExactlyFourHexDigits", fn := fun _ => fun
  | [d1, d2] => { results := [.lit (.bool true)], args := [d1, d2] }
  | _ => none }
def fnHex4AcceptsExactlyFourHexDigitsRow : OpenClaim := { program := "qxb6600143a", sum := "58bb56235f79ce06ff5b448a789eb5b416ea80938d98ae69667b55736f2e9bf8", func := "example.com/tenorbook/tenorbook/zzlaws_internal_ledger_b1.FnHex4AcceptsExactlyFourHexDigits", spec := "fnHex4AcceptsExactlyFourHexDigits", apart := false }
def FnHex4AcceptsExactlyFourHexDigitsSaid : Prop := fnHex4AcceptsExactlyFourHexDigitsRow.holds Try.pinned (OpenSpec.ofChange fnHex4AcceptsExactlyFourHexDigitsSpec)

/-- ITS FALSE NEIGHBOUR: 'it returns false'. Refute it at one input. -/
def fnHex4AcceptsExactlyFourHexDigitsWrong : ChangeSpec := { name := "fnHex4AcceptsExactlyFourHexDigits", fn := fun _ => fun
  | [d1, d2] => { results := [.lit (.bool false)], args := [d1, d2] }
  | _ => none }
def FnHex4AcceptsExactlyFourHexDigitsWrongFalsely : Prop := fnHex4AcceptsExactlyFourHexDigitsRow.holds Try.pinned (OpenSpec.ofChange fnHex4AcceptsExactlyFourHexDigitsWrong)

/-- 'zzlaws_internal_ledger_b1.FnHex4IgnoresCase': WHATEVER THE INPUT: true; the input reads as it did. -/
def fnHex4IgnoresCaseSpec : ChangeSpec := { name := "fnHex4IgnoresCase", fn := fun _ => fun
  | [d1, d2] => { results := [.lit (.bool true)], args := [d1, d2] }
  | _ => none }
def fnHex4IgnoresCaseRow : OpenClaim := { program := "qxb6600143a", sum := "58bb56235f79ce06ff5b448a789eb5b416ea80938d98ae69667b55736f2e9bf8", func := "example.com/tenorbook/tenorbook/zzlaws_internal_ledger_b1.FnHex4IgnoresCase", spec := "fnHex4IgnoresCase", apart := false }
def FnHex4IgnoresCaseSaid : Prop := fnHex4IgnoresCaseRow.holds Try.pinned (OpenSpec.ofChange fnHex4IgnoresCaseSpec)

/-- ITS FALSE NEIGHBOUR: 'it returns false'. Refute it at one input. -/
def fnHex4IgnoresCaseWrong : ChangeSpec := { name := "fnHex4IgnoresCase", fn := fun _ => fun
  | [d1, d2] => { results := [.lit (.bool false)], args := [d1, d2] }
  | _ => none }
def FnHex4IgnoresCaseWrongFalsely : Prop := fnHex4IgnoresCaseRow.holds Try.pinned (OpenSpec.ofChange fnHex4IgnoresCaseWrong)

end Rows
end Go.Proofs.Qxb6600143a
