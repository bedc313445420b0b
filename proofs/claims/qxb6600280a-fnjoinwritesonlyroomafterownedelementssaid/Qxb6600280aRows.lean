/-
  No cell of these rows narrows 'for every input' (looked for: loops, veiled, ifaces, maps, wideKeys, modest, calm, conditions, laid).
  DERIVED. THE GIVEN ROWS OF THIS SEAT. 7 by the template 'for every input the law returns true; each argument reads behind the call as it read before'; 0 by the template 'total and deterministic' (their statements: Qxb6600280aTotals.lean).
  GIVEN WITH THE SEED: the statements are not yours to turn. If you find one false, say at which input.
  Laid BY PROGRAM, IN A SANDBOX (cutbox-rows.mjs): the forced cells as the released guide's own fill.sh prints them over the translation 28f59ee5e6fe6d13… (all of the seat's roots in one cut). By AI agents, Wed Nov 11 2026. No macro, syntax, notation, axiom, sorry.
-/
import Derived.Test.Qxb6600280aChecked
import GoSem.Claim
import GoSem.ClaimJoined
import GoSem.ClaimMapViews
import Derived.JoinedTies
import Derived.KernelRfl
namespace Go.Proofs.Qxb6600280a
/- THE CELL 'sum', in the pinned program and in every row, IS THE sha256 OF THE DUMP (.gsa) THAT Qxb6600280aProg.lean LOADS. Nothing in Lean hashes anything: it is a label: what it is worth is what the hold of that sum in a sandbox is worth. -/
noncomputable def Try.pinned : Pinned := { name := "qxb6600280a", sum := "28f59ee5e6fe6d135733673ab258c7553bca383293f57baf44862b3d2054f496", checked := Try.checked }
namespace Rows
def none {H : Type} : Left H := { results := [], args := [] }

/-- 'zzlaws_internal_keyspace_b1.FnMatchAgreesWithTokenTable': WHATEVER THE INPUT: true; the input reads as it did. -/
def fnMatchAgreesWithTokenTableSpec : ChangeSpec := { name := "fnMatchAgreesWithTokenTable", fn := fun _ => fun
  | [d1, d2] => { results := [.lit (.bool true)], args := [d1, d2] }
  | _ => none }
def fnMatchAgreesWithTokenTableRow : OpenClaim := { program := "qxb6600280a", sum := "28f59ee5e6fe6d135733673ab258c7553bca383293f57baf44862b3d2054f496", func := "example.com/ripplelog/ripplelog/zzlaws_internal_keyspace_b1.FnMatchAgreesWithTokenTable", spec := "fnMatchAgreesWithTokenTable", apart := false }
def FnMatchAgreesWithTokenTableSaid : Prop := fnMatchAgreesWithTokenTableRow.holds Try.pinned (OpenSpec.ofChange fnMatchAgreesWithTokenTableSpec)

/-- ITS FALSE NEIGHBOUR: 'it returns false'. Refute it at one input. -/
def fnMatchAgreesWithTokenTableWrong : ChangeSpec := { name := "fnMatchAgreesWithTokenTable", fn := fun _ => fun
  | [d1, d2] => { results := [.lit (.bool false)], args := [d1, d2] }
  | _ => none }
def FnMatchAgreesWithTokenTableWrongFalsely : Prop := fnMatchAgreesWithTokenTableRow.holds Try.pinned (OpenSpec.ofChange fnMatchAgreesWithTokenTableWrong)

/-- 'zzlaws_internal_keyspace_b1.FnMatchEscapedTextTestsEqualityPrefixSuffixOrSubstring': WHATEVER THE INPUT: true; the input reads as it did. -/
def fnMatchEscapedTextTestsEqualityPrefixSuffixOrSubstringSpec : ChangeSpec := { name := "fnMatchEscapedTextTestsEqualityPrefixSuffixOrSubstring", fn := fun _ => fun
  | [d1, d2, d3, d4] => { results := [.lit (.bool true)], args := [d1, d2, d3, d4] }
  | _ => none }
def fnMatchEscapedTextTestsEqualityPrefixSuffixOrSubstringRow : OpenClaim := { program := "qxb6600280a", sum := "28f59ee5e6fe6d135733673ab258c7553bca383293f57baf44862b3d2054f496", func := "example.com/ripplelog/ripplelog/zzlaws_internal_keyspace_b1.FnMatchEscapedTextTestsEqualityPrefixSuffixOrSubstring", spec := "fnMatchEscapedTextTestsEqualityPrefixSuffixOrSubstring", apart := false }
def FnMatchEscapedTextTestsEqualityPrefixSuffixOrSubstringSaid : Prop := fnMatchEscapedTextTestsEqualityPrefixSuffixOrSubstringRow.holds Try.pinned (OpenSpec.ofChange fnMatchEscapedTextTestsEqualityPrefixSuffixOrSubstringSpec)

/-- ITS FALSE NEIGHBOUR: 'it returns false'. Refute it at one input. -/
def fnMatchEscapedTextTestsEqualityPrefixSuffixOrSubstringWrong : ChangeSpec := { name := "fnMatchEscapedTextTestsEqualityPrefixSuffixOrSubstring", fn := fun _ => fun
  | [d1, d2, d3, d4] => { results := [.lit (.bool false)], args := [d1, d2, d3, d4] }
  | _ => none }
def FnMatchEscapedTextTestsEqualityPrefixSuffixOrSubstringWrongFalsely : Prop := fnMatchEscapedTextTestsEqualityPrefixSuffixOrSubstringRow.holds Try.pinned (OpenSpec.ofChange fnMatchEscapedTextTestsEqualityPrefixSuffixOrSubstringWrong)

/-- 'zzlaws_internal_keyspace_b1.FnMatchLeadingStarOnlyWidens': WHATEVER THE INPUT: true; the input reads as it did. -/
def fnMatchLeadingStarOnlyWidensSpec : ChangeSpec := { name := "fnMatchLeadingStarOnlyWidens", fn := fun _ => fun
  | [d1, d2, d3] => { results := [.lit (.bool true)], args := [d1, d2, d3] }
  | _ => none }
def fnMatchLeadingStarOnlyWidensRow : OpenClaim := { program := "qxb6600280a", sum := "28f59ee5e6fe6d135733673ab258c7553bca383293f57baf44862b3d2054f496", func := "example.com/ripplelog/ripplelog/zzlaws_internal_keyspace_b1.FnMatchLeadingStarOnlyWidens", spec := "fnMatchLeadingStarOnlyWidens", apart := false }
def FnMatchLeadingStarOnlyWidensSaid : Prop := fnMatchLeadingStarOnlyWidensRow.holds Try.pinned (OpenSpec.ofChange fnMatchLeadingStarOnlyWidensSpec)

/-- ITS FALSE NEIGHBOUR: 'it returns false'. Refute it at one input. -/
def fnMatchLeadingStarOnlyWidensWrong : ChangeSpec := { name := "fnMatchLeadingStarOnlyWidens", fn := fun _ => fun
  | [d1, d2, d3] => { results := [.lit (.bool false)], args := [d1, d2, d3] }
  | _ => none }
def FnMatchLeadingStarOnlyWidensWrongFalsely : Prop := fnMatchLeadingStarOnlyWidensRow.holds Try.pinned (OpenSpec.ofChange fnMatchLeadingStarOnlyWidensWrong)

/-- 'zzlaws_internal_keyspace_b1.FnMatchSetDecidesAWrittenSet': WHATEVER THE INPUT: true; the input reads as it did. -/
def fnMatchSetDecidesAWrittenSetSpec : ChangeSpec := { name := "fnMatchSetDecidesAWrittenSet", fn := fun _ => fun
  | [d1, d2, d3, d4, d5, d6] => { results := [.lit (.bool true)], args := [d1, d2, d3, d4, d5, d6] }
  | _ => none }
def fnMatchSetDecidesAWrittenSetRow : OpenClaim := { program := "qxb6600280a", sum := "28f59ee5e6fe6d135733673ab258c7553bca383293f57baf44862b3d2054f496", func := "example.com/ripplelog/ripplelog/zzlaws_internal_keyspace_b1.FnMatchSetDecidesAWrittenSet", spec := "fnMatchSetDecidesAWrittenSet", apart := false }
def FnMatchSetDecidesAWrittenSetSaid : Prop := fnMatchSetDecidesAWrittenSetRow.holds Try.pinned (OpenSpec.ofChange fnMatchSetDecidesAWrittenSetSpec)

/-- ITS FALSE NEIGHBOUR: 'it returns false'. Refute it at one input. -/
def fnMatchSetDecidesAWrittenSetWrong : ChangeSpec := { name := "fnMatchSetDecidesAWrittenSet", fn := fun _ => fun
  | [d1, d2, d3, d4, d5, d6] => { results := [.lit (.bool false)], args := [d1, d2, d3, d4, d5, d6] }
  | _ => none }
def FnMatchSetDecidesAWrittenSetWrongFalsely : Prop := fnMatchSetDecidesAWrittenSetRow.holds Try.pinned (OpenSpec.ofChange fnMatchSetDecidesAWrittenSetWrong)

/-- 'zzlaws_internal_keyspace_b1.FnMatchSetCaretComplements': WHATEVER THE INPUT: true; the input reads as it did. -/
def fnMatchSetCaretComplementsSpec : ChangeSpec := { name := "fnMatchSetCaretComplements", fn := fun _ => fun
  | [d1, d2, d3] => { results := [.lit (.bool true)], args := [d1, d2, d3] }
  | _ => none }
def fnMatchSetCaretComplementsRow : OpenClaim := { program := "qxb6600280a", sum := "28f59ee5e6fe6d135733673ab258c7553bca383293f57baf44862b3d2054f496", func := "example.com/ripplelog/ripplelog/zzlaws_internal_keyspace_b1.FnMatchSetCaretComplements", spec := "fnMatchSetCaretComplements", apart := false }
def FnMatchSetCaretComplementsSaid : Prop := fnMatchSetCaretComplementsRow.holds Try.pinned (OpenSpec.ofChange fnMatchSetCaretComplementsSpec)

/-- ITS FALSE NEIGHBOUR: 'it returns false'. Refute it at one input. -/
def fnMatchSetCaretComplementsWrong : ChangeSpec := { name := "fnMatchSetCaretComplements", fn := fun _ => fun
  | [d1, d2, d3] => { results := [.lit (.bool false)], args := [d1, d2, d3] }
  | _ => none }
def FnMatchSetCaretComplementsWrongFalsely : Prop := fnMatchSetCaretComplementsRow.holds Try.pinned (OpenSpec.ofChange fnMatchSetCaretComplementsWrong)

/-- 'zzlaws_internal_keyspace_b1.FnJoinPacksTheWindowGreedily': WHATEVER THE INPUT: true; the input reads as it did. -/
def fnJoinPacksTheWindowGreedilySpec : ChangeSpec := { name := "fnJoinPacksTheWindowGreedily", fn := fun _ => fun
  | [d1, d2, d3, d4, d5, d6, d7] => { results := [.lit (.bool true)], args := [d1, d2, d3, d4, d5, d6, d7] }
  | _ => none }
def fnJoinPacksTheWindowGreedilyRow : OpenClaim := { program := "qxb6600280a", sum := "28f59ee5e6fe6d135733673ab258c7553bca383293f57baf44862b3d2054f496", func := "example.com/ripplelog/ripplelog/zzlaws_internal_keyspace_b1.FnJoinPacksTheWindowGreedily", spec := "fnJoinPacksTheWindowGreedily", apart := false }
def FnJoinPacksTheWindowGreedilySaid : Prop := fnJoinPacksTheWindowGreedilyRow.holds Try.pinned (OpenSpec.ofChange fnJoinPacksTheWindowGreedilySpec)

/-- ITS FALSE NEIGHBOUR: 'it returns false'. Refute it at one input. -/
def fnJoinPacksTheWindowGreedilyWrong : ChangeSpec := { name := "fnJoinPacksTheWindowGreedily", fn := fun _ => fun
  | [d1, d2, d3, d4, d5, d6, d7] => { results := [.lit (.bool false)], args := [d1, d2, d3, d4, d5, d6, d7] }
  | _ => none }
def FnJoinPacksTheWindowGreedilyWrongFalsely : Prop := fnJoinPacksTheWindowGreedilyRow.holds Try.pinned (OpenSpec.ofChange fnJoinPacksTheWindowGreedilyWrong)

/-- 'zzlaws_internal_keyspace_b1.FnJoinWritesOnlyRoomAfterOwnedElements': WHATEVER THE INPUT: true; the input reads as it did. -/
def fnJoinWritesOnlyRoomAfterOwnedElementsSpec : ChangeSpec := { name := "fnJoinWritesOnlyRoomAfterOwnedElements", fn := fun _ => fun
  | [d1, d2, d3, d4, d5, d6, d7] => { results := [.lit (.bool true)], args := [d1, d2, d3, d4, d5, d6, d7] }
  | _ => none }
def fnJoinWritesOnlyRoomAfterOwnedElementsRow : OpenClaim := { program := "qxb6600280a", sum := "28f59ee5e6fe6d135733673ab258c7553bca383293f57baf44862b3d2054f496", func := "example.com/ripplelog/ripplelog/zzlaws_internal_keyspace_b1.FnJoinWritesOnlyRoomAfterOwnedElements", spec := "fnJoinWritesOnlyRoomAfterOwnedElements", apart := false }
def FnJoinWritesOnlyRoomAfterOwnedElementsSaid : Prop := fnJoinWritesOnlyRoomAfterOwnedElementsRow.holds Try.pinned (OpenSpec.ofChange fnJoinWritesOnlyRoomAfterOwnedElementsSpec)

/-- ITS FALSE NEIGHBOUR: 'it returns false'. Refute it at one input. -/
def fnJoinWritesOnlyRoomAfterOwnedElementsWrong : ChangeSpec := { name := "fnJoinWritesOnlyRoomAfterOwnedElements", fn := fun _ => fun
  | [d1, d2, d3, d4, d5, d6, d7] => { results := [.lit (.bool false)], args := [d1, d2, d3, d4, d5, d6, d7] }
  | _ => none }
def FnJoinWritesOnlyRoomAfterOwnedElementsWrongFalsely : Prop := fnJoinWritesOnlyRoomAfterOwnedElementsRow.holds Try.pinned (OpenSpec.ofChange fnJoinWritesOnlyRoomAfterOwnedElementsWrong)

end Rows
end Go.Proofs.Qxb6600280a
