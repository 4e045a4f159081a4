/-
  No cell of these rows narrows 'for every input' (looked for: loops, veiled, ifaces, maps, wideKeys, modest, calm, conditions, laid).
  DERIVED. THE GIVEN ROWS OF THIS SEAT. 6 by the template 'for every input the law returns true; each argument reads behind the call as it read before'; 0 by the template 'total and deterministic' (their statements: Qxb6603695aTotals.lean).
  GIVEN WITH THE SEED: the statements are not yours to turn. If you find one false, say at which input.
  Laid BY PROGRAM, IN A SANDBOX (cutbox-rows.mjs): the forced cells as the released guide's own fill.sh prints them over the translation e3bb92c257a47867… (all of the seat's roots in one cut). By AI agents, Wed Nov 11 2026. No macro, syntax, notation, axiom, sorry.
-/
import Derived.Test.Qxb6603695aChecked
import GoSem.Claim
import GoSem.ClaimJoined
import GoSem.ClaimMapViews
import Derived.JoinedTies
import Derived.KernelRfl
namespace Go.Proofs.Qxb6603695a
/- THE CELL 'sum', in the pinned program and in every row, IS THE sha256 OF THE DUMP (.gsa) THAT Qxb6603695aProg.lean LOADS. Nothing in Lean hashes anything: it is a label: what it is worth is what the hold of that sum in a sandbox is worth. -/
noncomputable def Try.pinned : Pinned := { name := "qxb6603695a", sum := "e3bb92c257a47867a3bb1d9a2c45149e4577b89ac1e89e16a54eb1394477220e", checked := Try.checked }
namespace Rows
def none {H : Type} : Left H := { results := [], args := [] }

/-- 'zzlaws_root_b1.FnHex4MatchesPositionalValue': WHATEVER THE INPUT: true; the input reads as it did. -/
def fnHex4MatchesPositionalValueSpec : ChangeSpec := { name := "fnHex4MatchesPositionalValue", fn := fun _ => fun
  | [d] => { results := [.lit (.bool true)], args := [d] }
  | _ => none }
def fnHex4MatchesPositionalValueRow : OpenClaim := { program := "qxb6603695a", sum := "e3bb92c257a47867a3bb1d9a2c45149e4577b89ac1e89e16a54eb1394477220e", func := "example.com/admit/admit/zzlaws_root_b1.FnHex4MatchesPositionalValue", spec := "fnHex4MatchesPositionalValue", apart := false }
def FnHex4MatchesPositionalValueSaid : Prop := fnHex4MatchesPositionalValueRow.holds Try.pinned (OpenSpec.ofChange fnHex4MatchesPositionalValueSpec)

/-- ITS FALSE NEIGHBOUR: 'it returns false'. Refute it at one input. -/
def fnHex4MatchesPositionalValueWrong : ChangeSpec := { name := "fnHex4MatchesPositionalValue", fn := fun _ => fun
  | [d] => { results := [.lit (.bool false)], args := [d] }
  | _ => none }
def FnHex4MatchesPositionalValueWrongFalsely : Prop := fnHex4MatchesPositionalValueRow.holds Try.pinned (OpenSpec.ofChange fnHex4MatchesPositionalValueWrong)

/-- 'zzlaws_root_b1.FnHex4ReadsBackEveryFourDigitSpelling': WHATEVER THE INPUT: true; the input reads as it did. -/
def fnHex4ReadsBackEveryFourDigitSpellingSpec : ChangeSpec := { name := "fnHex4ReadsBackEveryFourDigitSpelling", fn := fun _ => fun
  | [d1, d2] => { results := [.lit (.bool true)], args := [d1, d2] }
  | _ => none }
def fnHex4ReadsBackEveryFourDigitSpellingRow : OpenClaim := { program := "qxb6603695a", sum := "e3bb92c257a47867a3bb1d9a2c45149e4577b89ac1e89e16a54eb1394477220e", func := "example.com/admit/admit/zzlaws_root_b1.FnHex4ReadsBackEveryFourDigitSpelling", spec := "fnHex4ReadsBackEveryFourDigitSpelling", apart := false }
def FnHex4ReadsBackEveryFourDigitSpellingSaid : Prop := fnHex4ReadsBackEveryFourDigitSpellingRow.holds Try.pinned (OpenSpec.ofChange fnHex4ReadsBackEveryFourDigitSpellingSpec)

/-- ITS FALSE NEIGHBOUR: 'it returns false'. Refute it at one input. -/
def fnHex4ReadsBackEveryFourDigitSpellingWrong : ChangeSpec := { name := "fnHex4ReadsBackEveryFourDigitSpelling", fn := fun _ => fun
  | [d1, d2] => { results := [.lit (.bool false)], args := [d1, d2] }
  | _ => none }
def FnHex4ReadsBackEveryFourDigitSpellingWrongFalsely : Prop := fnHex4ReadsBackEveryFourDigitSpellingRow.holds Try.pinned (OpenSpec.ofChange fnHex4ReadsBackEveryFourDigitSpellingWrong)

/-- 'zzlaws_root_b1.FnHex4SameValueExactlyForDigitsEqualIgnoringCase': WHATEVER THE INPUT: true; the input reads as it did. -/
def fnHex4SameValueExactlyForDigitsEqualIgnoringCaseSpec : ChangeSpec := { name := "fnHex4SameValueExactlyForDigitsEqualIgnoringCase", fn := fun _ => fun
  | [d1, d2] => { results := [.lit (.bool true)], args := [d1, d2] }
  | _ => none }
def fnHex4SameValueExactlyForDigitsEqualIgnoringCaseRow : OpenClaim := { program := "qxb6603695a", sum := "e3bb92c257a47867a3bb1d9a2c45149e4577b89ac1e89e16a54eb1394477220e", func := "example.com/admit/admit/zzlaws_root_b1.FnHex4SameValueExactlyForDigitsEqualIgnoringCase", spec := "fnHex4SameValueExactlyForDigitsEqualIgnoringCase", apart := false }
def FnHex4SameValueExactlyForDigitsEqualIgnoringCaseSaid : Prop := fnHex4SameValueExactlyForDigitsEqualIgnoringCaseRow.holds Try.pinned (OpenSpec.ofChange fnHex4SameValueExactlyForDigitsEqualIgnoringCaseSpec)

/-- ITS FALSE NEIGHBOUR: 'it returns false'. Refute it at one input. -/
def fnHex4SameValueExactlyForDigitsEqualIgnoringCaseWrong : ChangeSpec := { name := "fnHex4SameValueExactlyForDigitsEqualIgnoringCase", fn := fun _ => fun
  | [d1, d2] => { results := [.lit (.bool false)], args := [d1, d2] }
  | _ => none }
def FnHex4SameValueExactlyForDigitsEqualIgnoringCaseWrongFalsely : Prop := fnHex4SameValueExactlyForDigitsEqualIgnoringCaseRow.holds Try.pinned (OpenSpec.ofChange fnHex4SameValueExactlyForDigitsEqualIgnoringCaseWrong)

/-- 'zzlaws_root_b1.FnIsScopeTokenIsNonEmptyNQCharString': WHATEVER THE INPUT: true; the input reads as it did. -/
def fnIsScopeTokenIsNonEmptyNQCharStringSpec : ChangeSpec := { name := "fnIsScopeTokenIsNonEmptyNQCharString", fn := fun _ => fun
  | [d] => { results := [.lit (.bool true)], args := [d] }
  | _ => none }
def fnIsScopeTokenIsNonEmptyNQCharStringRow : OpenClaim := { program := "qxb6603695a", sum := "e3bb92c257a47867a3bb1d9a2c45149e4577b89ac1e89e16a54eb1394477220e", func := "example.com/admit/admit/zzlaws_root_b1.FnIsScopeTokenIsNonEmptyNQCharString", spec := "fnIsScopeTokenIsNonEmptyNQCharString", apart := false }
def FnIsScopeTokenIsNonEmptyNQCharStringSaid : Prop := fnIsScopeTokenIsNonEmptyNQCharStringRow.holds Try.pinned (OpenSpec.ofChange fnIsScopeTokenIsNonEmptyNQCharStringSpec)

/-- ITS FALSE NEIGHBOUR: 'it returns false'. Refute it at one input. -/
def fnIsScopeTokenIsNonEmptyNQCharStringWrong : ChangeSpec := { name := "fnIsScopeTokenIsNonEmptyNQCharString", fn := fun _ => fun
  | [d] => { results := [.lit (.bool false)], args := [d] }
  | _ => none }
def FnIsScopeTokenIsNonEmptyNQCharStringWrongFalsely : Prop := fnIsScopeTokenIsNonEmptyNQCharStringRow.holds Try.pinned (OpenSpec.ofChange fnIsScopeTokenIsNonEmptyNQCharStringWrong)

/-- 'zzlaws_root_b1.FnIsScopeTokenAgreesWithHoldsAllOverNQChar': WHATEVER THE INPUT: true; the input reads as it did. -/
def fnIsScopeTokenAgreesWithHoldsAllOverNQCharSpec : ChangeSpec := { name := "fnIsScopeTokenAgreesWithHoldsAllOverNQChar", fn := fun _ => fun
  | [d] => { results := [.lit (.bool true)], args := [d] }
  | _ => none }
def fnIsScopeTokenAgreesWithHoldsAllOverNQCharRow : OpenClaim := { program := "qxb6603695a", sum := "e3bb92c257a47867a3bb1d9a2c45149e4577b89ac1e89e16a54eb1394477220e", func := "example.com/admit/admit/zzlaws_root_b1.FnIsScopeTokenAgreesWithHoldsAllOverNQChar", spec := "fnIsScopeTokenAgreesWithHoldsAllOverNQChar", apart := false }
def FnIsScopeTokenAgreesWithHoldsAllOverNQCharSaid : Prop := fnIsScopeTokenAgreesWithHoldsAllOverNQCharRow.holds Try.pinned (OpenSpec.ofChange fnIsScopeTokenAgreesWithHoldsAllOverNQCharSpec)

/-- ITS FALSE NEIGHBOUR: 'it returns false'. Refute it at one input. -/
def fnIsScopeTokenAgreesWithHoldsAllOverNQCharWrong : ChangeSpec := { name := "fnIsScopeTokenAgreesWithHoldsAllOverNQChar", fn := fun _ => fun
  | [d] => { results := [.lit (.bool false)], args := [d] }
  | _ => none }
def FnIsScopeTokenAgreesWithHoldsAllOverNQCharWrongFalsely : Prop := fnIsScopeTokenAgreesWithHoldsAllOverNQCharRow.holds Try.pinned (OpenSpec.ofChange fnIsScopeTokenAgreesWithHoldsAllOverNQCharWrong)

/-- 'zzlaws_root_b1.FnHoldsAllIsByteSetInclusion': WHATEVER THE INPUT: true; the input reads as it did. -/
def fnHoldsAllIsByteSetInclusionSpec : ChangeSpec := { name := "fnHoldsAllIsByteSetInclusion", fn := fun _ => fun
  | [d1, d2] => { results := [.lit (.bool true)], args := [d1, d2] }
  | _ => none }
def fnHoldsAllIsByteSetInclusionRow : OpenClaim := { program := "qxb6603695a", sum := "e3bb92c257a47867a3bb1d9a2c45149e4577b89ac1e89e16a54eb1394477220e", func := "example.com/admit/admit/zzlaws_root_b1.FnHoldsAllIsByteSetInclusion", spec := "fnHoldsAllIsByteSetInclusion", apart := false }
def FnHoldsAllIsByteSetInclusionSaid : Prop := fnHoldsAllIsByteSetInclusionRow.holds Try.pinned (OpenSpec.ofChange fnHoldsAllIsByteSetInclusionSpec)

/-- ITS FALSE NEIGHBOUR: 'it returns false'. Refute it at one input. -/
def fnHoldsAllIsByteSetInclusionWrong : ChangeSpec := { name := "fnHoldsAllIsByteSetInclusion", fn := fun _ => fun
  | [d1, d2] => { results := [.lit (.bool false)], args := [d1, d2] }
  | _ => none }
def FnHoldsAllIsByteSetInclusionWrongFalsely : Prop := fnHoldsAllIsByteSetInclusionRow.holds Try.pinned (OpenSpec.ofChange fnHoldsAllIsByteSetInclusionWrong)

end Rows
end Go.Proofs.Qxb6603695a
