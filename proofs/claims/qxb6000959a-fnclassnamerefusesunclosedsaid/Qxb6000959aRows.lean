/-
  No cell of these rows narrows 'for every input' (looked for: loops, veiled, ifaces, maps, wideKeys, modest, calm, conditions, laid).
  DERIVED. THE GIVEN ROWS OF THIS SEAT. 8 by the template 'for every input the law returns true; each argument reads behind the call as it read before'; 0 by the template 'total and deterministic' (their statements: Qxb6000959aTotals.lean).
  GIVEN WITH THE SEED: the statements are not yours to turn. If you find one false, say at which input.
  Laid BY PROGRAM, IN A SANDBOX (cutbox-rows.mjs): the forced cells as the released guide's own fill.sh prints them over the translation 6a40df54dc3f6ba1… (all of the seat's roots in one cut). By AI agents, Wed Nov 11 2026. No macro, syntax, notation, axiom, sorry.
-/
import Derived.Test.Qxb6000959aChecked
import GoSem.Claim
import GoSem.ClaimJoined
import GoSem.ClaimMapViews
import Derived.JoinedTies
import Derived.KernelRfl
namespace Go.Proofs.Qxb6000959a
/- THE CELL 'sum', in the pinned program and in every row, IS THE sha256 OF THE DUMP (.gsa) THAT Qxb6000959aProg.lean LOADS. Nothing in Lean hashes anything: it is a label: what it is worth is what the hold of that sum in a sandbox is worth. -/
noncomputable def Try.pinned : Pinned := { name := "qxb6000959a", sum := "6a40df54dc3f6ba17a6b6b3b6d15249941976a1042686bf356fd28788b835c6e", checked := Try.checked }
namespace Rows
def none {H : Type} : Left H := { results := [], args := [] }

/-- 'zzlaws_internal_ignore_b1.FnTrimSpacesExact': WHATEVER THE INPUT: true; the input reads as it did. -/
def fnTrimSpacesExactSpec : ChangeSpec := { name := "fnTrimSpacesExact", fn := fun _ => fun
  | [d] => { results := [.lit (.bool true)], args := [d] }
  | _ => none }
def fnTrimSpacesExactRow : OpenClaim := { program := "qxb6000959a", sum := "6a40df54dc3f6ba17a6b6b3b6d15249941976a1042686bf356fd28788b835c6e", func := "example.com/twinclock/twinclock/zzlaws_internal_ignore_b1.FnTrimSpacesExact", spec := "fnTrimSpacesExact", apart := false }
def FnTrimSpacesExactSaid : Prop := fnTrimSpacesExactRow.holds Try.pinned (OpenSpec.ofChange fnTrimSpacesExactSpec)

/-- ITS FALSE NEIGHBOUR: 'it returns false'. Refute it at one input. -/
def fnTrimSpacesExactWrong : ChangeSpec := { name := "fnTrimSpacesExact", fn := fun _ => fun
  | [d] => { results := [.lit (.bool false)], args := [d] }
  | _ => none }
def FnTrimSpacesExactWrongFalsely : Prop := fnTrimSpacesExactRow.holds Try.pinned (OpenSpec.ofChange fnTrimSpacesExactWrong)

/-- 'zzlaws_internal_ignore_b1.FnTrimSpacesIdempotent': WHATEVER THE INPUT: true; the input reads as it did. -/
def fnTrimSpacesIdempotentSpec : ChangeSpec := { name := "fnTrimSpacesIdempotent", fn := fun _ => fun
  | [d] => { results := [.lit (.bool true)], args := [d] }
  | _ => none }
def fnTrimSpacesIdempotentRow : OpenClaim := { program := "qxb6000959a", sum := "6a40df54dc3f6ba17a6b6b3b6d15249941976a1042686bf356fd28788b835c6e", func := "example.com/twinclock/twinclock/zzlaws_internal_ignore_b1.FnTrimSpacesIdempotent", spec := "fnTrimSpacesIdempotent", apart := false }
def FnTrimSpacesIdempotentSaid : Prop := fnTrimSpacesIdempotentRow.holds Try.pinned (OpenSpec.ofChange fnTrimSpacesIdempotentSpec)

/-- ITS FALSE NEIGHBOUR: 'it returns false'. Refute it at one input. -/
def fnTrimSpacesIdempotentWrong : ChangeSpec := { name := "fnTrimSpacesIdempotent", fn := fun _ => fun
  | [d] => { results := [.lit (.bool false)], args := [d] }
  | _ => none }
def FnTrimSpacesIdempotentWrongFalsely : Prop := fnTrimSpacesIdempotentRow.holds Try.pinned (OpenSpec.ofChange fnTrimSpacesIdempotentWrong)

/-- 'zzlaws_internal_ignore_b1.FnTrimSpacesAppendedSpaces': WHATEVER THE INPUT: true; the input reads as it did. -/
def fnTrimSpacesAppendedSpacesSpec : ChangeSpec := { name := "fnTrimSpacesAppendedSpaces", fn := fun _ => fun
  | [d1, d2] => { results := [.lit (.bool true)], args := [d1, d2] }
  | _ => none }
def fnTrimSpacesAppendedSpacesRow : OpenClaim := { program := "qxb6000959a", sum := "6a40df54dc3f6ba17a6b6b3b6d15249941976a1042686bf356fd28788b835c6e", func := "example.com/twinclock/twinclock/zzlaws_internal_ignore_b1.FnTrimSpacesAppendedSpaces", spec := "fnTrimSpacesAppendedSpaces", apart := false }
def FnTrimSpacesAppendedSpacesSaid : Prop := fnTrimSpacesAppendedSpacesRow.holds Try.pinned (OpenSpec.ofChange fnTrimSpacesAppendedSpacesSpec)

/-- ITS FALSE NEIGHBOUR: 'it returns false'. Refute it at one input. -/
def fnTrimSpacesAppendedSpacesWrong : ChangeSpec := { name := "fnTrimSpacesAppendedSpaces", fn := fun _ => fun
  | [d1, d2] => { results := [.lit (.bool false)], args := [d1, d2] }
  | _ => none }
def FnTrimSpacesAppendedSpacesWrongFalsely : Prop := fnTrimSpacesAppendedSpacesRow.holds Try.pinned (OpenSpec.ofChange fnTrimSpacesAppendedSpacesWrong)

/-- 'zzlaws_internal_ignore_b1.FnClassNameRoundTrip': WHATEVER THE INPUT: true; the input reads as it did. -/
def fnClassNameRoundTripSpec : ChangeSpec := { name := "fnClassNameRoundTrip", fn := fun _ => fun
  | [d1, d2, d3] => { results := [.lit (.bool true)], args := [d1, d2, d3] }
  | _ => none }
def fnClassNameRoundTripRow : OpenClaim := { program := "qxb6000959a", sum := "6a40df54dc3f6ba17a6b6b3b6d15249941976a1042686bf356fd28788b835c6e", func := "example.com/twinclock/twinclock/zzlaws_internal_ignore_b1.FnClassNameRoundTrip", spec := "fnClassNameRoundTrip", apart := false }
def FnClassNameRoundTripSaid : Prop := fnClassNameRoundTripRow.holds Try.pinned (OpenSpec.ofChange fnClassNameRoundTripSpec)

/-- ITS FALSE NEIGHBOUR: 'it returns false'. Refute it at one input. -/
def fnClassNameRoundTripWrong : ChangeSpec := { name := "fnClassNameRoundTrip", fn := fun _ => fun
  | [d1, d2, d3] => { results := [.lit (.bool false)], args := [d1, d2, d3] }
  | _ => none }
def FnClassNameRoundTripWrongFalsely : Prop := fnClassNameRoundTripRow.holds Try.pinned (OpenSpec.ofChange fnClassNameRoundTripWrong)

/-- 'zzlaws_internal_ignore_b1.FnClassNameRefusesUnclosed': WHATEVER THE INPUT: true; the input reads as it did. -/
def fnClassNameRefusesUnclosedSpec : ChangeSpec := { name := "fnClassNameRefusesUnclosed", fn := fun _ => fun
  | [d1, d2, d3, d4] => { results := [.lit (.bool true)], args := [d1, d2, d3, d4] }
  | _ => none }
def fnClassNameRefusesUnclosedRow : OpenClaim := { program := "qxb6000959a", sum := "6a40df54dc3f6ba17a6b6b3b6d15249941976a1042686bf356fd28788b835c6e", func := "example.com/twinclock/twinclock/zzlaws_internal_ignore_b1.FnClassNameRefusesUnclosed", spec := "fnClassNameRefusesUnclosed", apart := false }
def FnClassNameRefusesUnclosedSaid : Prop := fnClassNameRefusesUnclosedRow.holds Try.pinned (OpenSpec.ofChange fnClassNameRefusesUnclosedSpec)

/-- ITS FALSE NEIGHBOUR: 'it returns false'. Refute it at one input. -/
def fnClassNameRefusesUnclosedWrong : ChangeSpec := { name := "fnClassNameRefusesUnclosed", fn := fun _ => fun
  | [d1, d2, d3, d4] => { results := [.lit (.bool false)], args := [d1, d2, d3, d4] }
  | _ => none }
def FnClassNameRefusesUnclosedWrongFalsely : Prop := fnClassNameRefusesUnclosedRow.holds Try.pinned (OpenSpec.ofChange fnClassNameRefusesUnclosedWrong)

/-- 'zzlaws_internal_ignore_b1.FnClassNameAnswerBounds': WHATEVER THE INPUT: true; the input reads as it did. -/
def fnClassNameAnswerBoundsSpec : ChangeSpec := { name := "fnClassNameAnswerBounds", fn := fun _ => fun
  | [d1, d2] => { results := [.lit (.bool true)], args := [d1, d2] }
  | _ => none }
def fnClassNameAnswerBoundsRow : OpenClaim := { program := "qxb6000959a", sum := "6a40df54dc3f6ba17a6b6b3b6d15249941976a1042686bf356fd28788b835c6e", func := "example.com/twinclock/twinclock/zzlaws_internal_ignore_b1.FnClassNameAnswerBounds", spec := "fnClassNameAnswerBounds", apart := false }
def FnClassNameAnswerBoundsSaid : Prop := fnClassNameAnswerBoundsRow.holds Try.pinned (OpenSpec.ofChange fnClassNameAnswerBoundsSpec)

/-- ITS FALSE NEIGHBOUR: 'it returns false'. Refute it at one input. -/
def fnClassNameAnswerBoundsWrong : ChangeSpec := { name := "fnClassNameAnswerBounds", fn := fun _ => fun
  | [d1, d2] => { results := [.lit (.bool false)], args := [d1, d2] }
  | _ => none }
def FnClassNameAnswerBoundsWrongFalsely : Prop := fnClassNameAnswerBoundsRow.holds Try.pinned (OpenSpec.ofChange fnClassNameAnswerBoundsWrong)

/-- 'zzlaws_internal_ignore_b1.FnLiteralRoundTrip': WHATEVER THE INPUT: true; the input reads as it did. -/
def fnLiteralRoundTripSpec : ChangeSpec := { name := "fnLiteralRoundTrip", fn := fun _ => fun
  | [d1, d2, d3, d4] => { results := [.lit (.bool true)], args := [d1, d2, d3, d4] }
  | _ => none }
def fnLiteralRoundTripRow : OpenClaim := { program := "qxb6000959a", sum := "6a40df54dc3f6ba17a6b6b3b6d15249941976a1042686bf356fd28788b835c6e", func := "example.com/twinclock/twinclock/zzlaws_internal_ignore_b1.FnLiteralRoundTrip", spec := "fnLiteralRoundTrip", apart := false }
def FnLiteralRoundTripSaid : Prop := fnLiteralRoundTripRow.holds Try.pinned (OpenSpec.ofChange fnLiteralRoundTripSpec)

/-- ITS FALSE NEIGHBOUR: 'it returns false'. Refute it at one input. -/
def fnLiteralRoundTripWrong : ChangeSpec := { name := "fnLiteralRoundTrip", fn := fun _ => fun
  | [d1, d2, d3, d4] => { results := [.lit (.bool false)], args := [d1, d2, d3, d4] }
  | _ => none }
def FnLiteralRoundTripWrongFalsely : Prop := fnLiteralRoundTripRow.holds Try.pinned (OpenSpec.ofChange fnLiteralRoundTripWrong)

/-- 'zzlaws_internal_ignore_b1.FnLiteralDecodesQuotedText': WHATEVER THE INPUT: true; the input reads as it did. -/
def fnLiteralDecodesQuotedTextSpec : ChangeSpec := { name := "fnLiteralDecodesQuotedText", fn := fun _ => fun
  | [d1, d2] => { results := [.lit (.bool true)], args := [d1, d2] }
  | _ => none }
def fnLiteralDecodesQuotedTextRow : OpenClaim := { program := "qxb6000959a", sum := "6a40df54dc3f6ba17a6b6b3b6d15249941976a1042686bf356fd28788b835c6e", func := "example.com/twinclock/twinclock/zzlaws_internal_ignore_b1.FnLiteralDecodesQuotedText", spec := "fnLiteralDecodesQuotedText", apart := false }
def FnLiteralDecodesQuotedTextSaid : Prop := fnLiteralDecodesQuotedTextRow.holds Try.pinned (OpenSpec.ofChange fnLiteralDecodesQuotedTextSpec)

/-- ITS FALSE NEIGHBOUR: 'it returns false'. Refute it at one input. -/
def fnLiteralDecodesQuotedTextWrong : ChangeSpec := { name := "fnLiteralDecodesQuotedText", fn := fun _ => fun
  | [d1, d2] => { results := [.lit (.bool false)], args := [d1, d2] }
  | _ => none }
def FnLiteralDecodesQuotedTextWrongFalsely : Prop := fnLiteralDecodesQuotedTextRow.holds Try.pinned (OpenSpec.ofChange fnLiteralDecodesQuotedTextWrong)

end Rows
end Go.Proofs.Qxb6000959a
