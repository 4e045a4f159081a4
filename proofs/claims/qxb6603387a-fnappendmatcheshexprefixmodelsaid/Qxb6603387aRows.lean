/-
  No cell of these rows narrows 'for every input' (looked for: loops, veiled, ifaces, maps, wideKeys, modest, calm, conditions, laid).
  DERIVED. THE GIVEN ROWS OF THIS SEAT. 3 by the template 'for every input the law returns true; each argument reads behind the call as it read before'; 0 by the template 'total and deterministic' (their statements: Qxb6603387aTotals.lean).
  GIVEN WITH THE SEED: the statements are not yours to turn. If you find one false, say at which input.
  Laid BY PROGRAM, IN A SANDBOX (cutbox-rows.mjs): the forced cells as the released guide's own fill.sh prints them over the translation d555214fd7d04551… (all of the seat's roots in one cut). By AI agents, Wed Nov 11 2026. No macro, syntax, notation, axiom, sorry.
-/
import Derived.Test.Qxb6603387aChecked
import GoSem.Claim
import GoSem.ClaimJoined
import GoSem.ClaimMapViews
import Derived.JoinedTies
import Derived.KernelRfl
namespace Go.Proofs.Qxb6603387a
/- THE CELL 'sum', in the pinned program and in every row, IS THE sha256 OF THE DUMP (.gsa) THAT Qxb6603387aProg.lean LOADS. Nothing in Lean hashes anything: it is a label: what it is worth is what the hold of that sum in a sandbox is worth. -/
noncomputable def Try.pinned : Pinned := { name := "qxb6603387a", sum := "d555214fd7d0455180b749400280e879fc4384f64268df463f0d170ec7caffa8", checked := Try.checked }
namespace Rows
def none {H : Type} : Left H := { results := [], args := [] }

/-- 'zzlaws_internal_hexprefix_b1.FnAppendMatchesHexPrefixModel': WHATEVER THE INPUT: true; the input reads as it did. -/
def fnAppendMatchesHexPrefixModelSpec : ChangeSpec := { name := "fnAppendMatchesHexPrefixModel", fn := fun _ => fun
  | [d1, d2, d3] => { results := [.lit (.bool true)], args := [d1, d2, d3] }
  | _ => none }
def fnAppendMatchesHexPrefixModelRow : OpenClaim := { program := "qxb6603387a", sum := "d555214fd7d0455180b749400280e879fc4384f64268df463f0d170ec7caffa8", func := "example.com/nibblewood/nibblewood/zzlaws_internal_hexprefix_b1.FnAppendMatchesHexPrefixModel", spec := "fnAppendMatchesHexPrefixModel", apart := false }
def FnAppendMatchesHexPrefixModelSaid : Prop := fnAppendMatchesHexPrefixModelRow.holds Try.pinned (OpenSpec.ofChange fnAppendMatchesHexPrefixModelSpec)

/-- ITS FALSE NEIGHBOUR: 'it returns false'. Refute it at one input. -/
def fnAppendMatchesHexPrefixModelWrong : ChangeSpec := { name := "fnAppendMatchesHexPrefixModel", fn := fun _ => fun
  | [d1, d2, d3] => { results := [.lit (.bool false)], args := [d1, d2, d3] }
  | _ => none }
def FnAppendMatchesHexPrefixModelWrongFalsely : Prop := fnAppendMatchesHexPrefixModelRow.holds Try.pinned (OpenSpec.ofChange fnAppendMatchesHexPrefixModelWrong)

/-- 'zzlaws_internal_hexprefix_b1.FnAppendDecodesBack': WHATEVER THE INPUT: true; the input reads as it did. -/
def fnAppendDecodesBackSpec : ChangeSpec := { name := "fnAppendDecodesBack", fn := fun _ => fun
  | [d1, d2, d3] => { results := [.lit (.bool true)], args := [d1, d2, d3] }
  | _ => none }
def fnAppendDecodesBackRow : OpenClaim := { program := "qxb6603387a", sum := "d555214fd7d0455180b749400280e879fc4384f64268df463f0d170ec7caffa8", func := "example.com/nibblewood/nibblewood/zzlaws_internal_hexprefix_b1.FnAppendDecodesBack", spec := "fnAppendDecodesBack", apart := false }
def FnAppendDecodesBackSaid : Prop := fnAppendDecodesBackRow.holds Try.pinned (OpenSpec.ofChange fnAppendDecodesBackSpec)

/-- ITS FALSE NEIGHBOUR: 'it returns false'. Refute it at one input. -/
def fnAppendDecodesBackWrong : ChangeSpec := { name := "fnAppendDecodesBack", fn := fun _ => fun
  | [d1, d2, d3] => { results := [.lit (.bool false)], args := [d1, d2, d3] }
  | _ => none }
def FnAppendDecodesBackWrongFalsely : Prop := fnAppendDecodesBackRow.holds Try.pinned (OpenSpec.ofChange fnAppendDecodesBackWrong)

/-- 'zzlaws_internal_hexprefix_b1.FnAppendInjective': WHATEVER THE INPUT: true; the input reads as it did. -/
def fnAppendInjectiveSpec : ChangeSpec := { name := "fnAppendInjective", fn := fun _ => fun
  | [d1, d2, d3, d4] => { results := [.lit (.bool true)], args := [d1, d2, d3, d4] }
  | _ => none }
def fnAppendInjectiveRow : OpenClaim := { program := "qxb6603387a", sum := "d555214fd7d0455180b749400280e879fc4384f64268df463f0d170ec7caffa8", func := "example.com/nibblewood/nibblewood/zzlaws_internal_hexprefix_b1.FnAppendInjective", spec := "fnAppendInjective", apart := false }
def FnAppendInjectiveSaid : Prop := fnAppendInjectiveRow.holds Try.pinned (OpenSpec.ofChange fnAppendInjectiveSpec)

/-- ITS FALSE NEIGHBOUR: 'it returns false'. Refute it at one input. -/
def fnAppendInjectiveWrong : ChangeSpec := { name := "fnAppendInjective", fn := fun _ => fun
  | [d1, d2, d3, d4] => { results := [.lit (.bool false)], args := [d1, d2, d3, d4] }
  | _ => none }
def FnAppendInjectiveWrongFalsely : Prop := fnAppendInjectiveRow.holds Try.pinned (OpenSpec.ofChange fnAppendInjectiveWrong)

end Rows
end Go.Proofs.Qxb6603387a
