/-
  No cell of these rows narrows 'for every input' (looked for: loops, veiled, ifaces, maps, wideKeys, modest, calm, conditions, laid).
  DERIVED. THE GIVEN ROWS OF THIS SEAT. 4 by the template 'for every input the law returns true; each argument reads behind the call as it read before'; 0 by the template 'total and deterministic' (their statements: Qxb6621698aTotals.lean).
  GIVEN WITH THE SEED: the statements are not yours to turn. If you find one false, say at which input.
  Laid BY PROGRAM, IN A SANDBOX (cutbox-rows.mjs): the forced cells as the released guide's own fill.sh prints them over the translation 71f0d758c8528b74… (all of the seat's roots in one cut). By AI agents, Wed Nov 11 2026. No macro, syntax, notation, axiom, sorry.
-/
import Derived.Test.Qxb6621698aChecked
import GoSem.Claim
import GoSem.ClaimJoined
import GoSem.ClaimMapViews
import Derived.JoinedTies
import Derived.KernelRfl
namespace Go.Proofs.Qxb6621698a
/- THE CELL 'sum', in the pinned program and in every row, IS THE sha256 OF THE DUMP (.gsa) THAT Qxb6621698aProg.lean LOADS. Nothing in Lean hashes anything: it is a label: what it is worth is what the hold of that sum in a sandbox is worth. -/
noncomputable def Try.pinned : Pinned := { name := "qxb6621698a", sum := "71f0d758c8528b748a1cff2173486520922b44fbd382cb9da44b4ea0781dd2be", checked := Try.checked }
namespace Rows
def none {H : Type} : Left H := { results := [], args := [] }

/-- 'zzlaws_internal_properties_b1.FnLogicalLineMatchesOddBackslashRule': WHATEVER THE INPUT: true; the input reads as it did. -/
def fnLogicalLineMatchesOddBackslashRuleSpec : ChangeSpec := { name := "fnLogicalLineMatchesOddBackslashRule", fn := fun _ => fun
  | [d1, d2, d3] => { results := [.lit (.bool true)], args := [d1, d2, d3] }
  | _ => none }
def fnLogicalLineMatchesOddBackslashRuleRow : OpenClaim := { program := "qxb6621698a", sum := "71f0d758c8528b748a1cff2173486520922b44fbd382cb9da44b4ea0781dd2be", func := "example.com/settings-to-switches/settings-to-switches/zzlaws_internal_properties_b1.FnLogicalLineMatchesOddBackslashRule", spec := "fnLogicalLineMatchesOddBackslashRule", apart := false }
def FnLogicalLineMatchesOddBackslashRuleSaid : Prop := fnLogicalLineMatchesOddBackslashRuleRow.holds Try.pinned (OpenSpec.ofChange fnLogicalLineMatchesOddBackslashRuleSpec)

/-- ITS FALSE NEIGHBOUR: 'it returns false'. Refute it at one input. -/
def fnLogicalLineMatchesOddBackslashRuleWrong : ChangeSpec := { name := "fnLogicalLineMatchesOddBackslashRule", fn := fun _ => fun
  | [d1, d2, d3] => { results := [.lit (.bool false)], args := [d1, d2, d3] }
  | _ => none }
def FnLogicalLineMatchesOddBackslashRuleWrongFalsely : Prop := fnLogicalLineMatchesOddBackslashRuleRow.holds Try.pinned (OpenSpec.ofChange fnLogicalLineMatchesOddBackslashRuleWrong)

/-- 'zzlaws_internal_properties_b1.FnLogicalLinesWalkTheInputCountingEveryLineEnd': WHATEVER THE INPUT: true; the input reads as it did. -/
def fnLogicalLinesWalkTheInputCountingEveryLineEndSpec : ChangeSpec := { name := "fnLogicalLinesWalkTheInputCountingEveryLineEnd", fn := fun _ => fun
  | [d1, d2, d3] => { results := [.lit (.bool true)], args := [d1, d2, d3] }
  | _ => none }
def fnLogicalLinesWalkTheInputCountingEveryLineEndRow : OpenClaim := { program := "qxb6621698a", sum := "71f0d758c8528b748a1cff2173486520922b44fbd382cb9da44b4ea0781dd2be", func := "example.com/settings-to-switches/settings-to-switches/zzlaws_internal_properties_b1.FnLogicalLinesWalkTheInputCountingEveryLineEnd", spec := "fnLogicalLinesWalkTheInputCountingEveryLineEnd", apart := false }
def FnLogicalLinesWalkTheInputCountingEveryLineEndSaid : Prop := fnLogicalLinesWalkTheInputCountingEveryLineEndRow.holds Try.pinned (OpenSpec.ofChange fnLogicalLinesWalkTheInputCountingEveryLineEndSpec)

/-- ITS FALSE NEIGHBOUR: 'it returns false'. Refute it at one input. -/
def fnLogicalLinesWalkTheInputCountingEveryLineEndWrong : ChangeSpec := { name := "fnLogicalLinesWalkTheInputCountingEveryLineEnd", fn := fun _ => fun
  | [d1, d2, d3] => { results := [.lit (.bool false)], args := [d1, d2, d3] }
  | _ => none }
def FnLogicalLinesWalkTheInputCountingEveryLineEndWrongFalsely : Prop := fnLogicalLinesWalkTheInputCountingEveryLineEndRow.holds Try.pinned (OpenSpec.ofChange fnLogicalLinesWalkTheInputCountingEveryLineEndWrong)

/-- 'zzlaws_internal_properties_b1.FnDocumentBuilderGivesBackWhatWasAdded': WHATEVER THE INPUT: true; the input reads as it did. -/
def fnDocumentBuilderGivesBackWhatWasAddedSpec : ChangeSpec := { name := "fnDocumentBuilderGivesBackWhatWasAdded", fn := fun _ => fun
  | [d] => { results := [.lit (.bool true)], args := [d] }
  | _ => none }
def fnDocumentBuilderGivesBackWhatWasAddedRow : OpenClaim := { program := "qxb6621698a", sum := "71f0d758c8528b748a1cff2173486520922b44fbd382cb9da44b4ea0781dd2be", func := "example.com/settings-to-switches/settings-to-switches/zzlaws_internal_properties_b1.FnDocumentBuilderGivesBackWhatWasAdded", spec := "fnDocumentBuilderGivesBackWhatWasAdded", apart := false }
def FnDocumentBuilderGivesBackWhatWasAddedSaid : Prop := fnDocumentBuilderGivesBackWhatWasAddedRow.holds Try.pinned (OpenSpec.ofChange fnDocumentBuilderGivesBackWhatWasAddedSpec)

/-- ITS FALSE NEIGHBOUR: 'it returns false'. Refute it at one input. -/
def fnDocumentBuilderGivesBackWhatWasAddedWrong : ChangeSpec := { name := "fnDocumentBuilderGivesBackWhatWasAdded", fn := fun _ => fun
  | [d] => { results := [.lit (.bool false)], args := [d] }
  | _ => none }
def FnDocumentBuilderGivesBackWhatWasAddedWrongFalsely : Prop := fnDocumentBuilderGivesBackWhatWasAddedRow.holds Try.pinned (OpenSpec.ofChange fnDocumentBuilderGivesBackWhatWasAddedWrong)

/-- 'zzlaws_internal_properties_b1.FnDocumentBuilderKeepsEachDocumentApart': WHATEVER THE INPUT: true; the input reads as it did. -/
def fnDocumentBuilderKeepsEachDocumentApartSpec : ChangeSpec := { name := "fnDocumentBuilderKeepsEachDocumentApart", fn := fun _ => fun
  | [d1, d2] => { results := [.lit (.bool true)], args := [d1, d2] }
  | _ => none }
def fnDocumentBuilderKeepsEachDocumentApartRow : OpenClaim := { program := "qxb6621698a", sum := "71f0d758c8528b748a1cff2173486520922b44fbd382cb9da44b4ea0781dd2be", func := "example.com/settings-to-switches/settings-to-switches/zzlaws_internal_properties_b1.FnDocumentBuilderKeepsEachDocumentApart", spec := "fnDocumentBuilderKeepsEachDocumentApart", apart := false }
def FnDocumentBuilderKeepsEachDocumentApartSaid : Prop := fnDocumentBuilderKeepsEachDocumentApartRow.holds Try.pinned (OpenSpec.ofChange fnDocumentBuilderKeepsEachDocumentApartSpec)

/-- ITS FALSE NEIGHBOUR: 'it returns false'. Refute it at one input. -/
def fnDocumentBuilderKeepsEachDocumentApartWrong : ChangeSpec := { name := "fnDocumentBuilderKeepsEachDocumentApart", fn := fun _ => fun
  | [d1, d2] => { results := [.lit (.bool false)], args := [d1, d2] }
  | _ => none }
def FnDocumentBuilderKeepsEachDocumentApartWrongFalsely : Prop := fnDocumentBuilderKeepsEachDocumentApartRow.holds Try.pinned (OpenSpec.ofChange fnDocumentBuilderKeepsEachDocumentApartWrong)

end Rows
end Go.Proofs.Qxb6621698a
