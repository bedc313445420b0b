/-
  No cell of these rows narrows 'for every input' (looked for: loops, veiled, ifaces, maps, wideKeys, modest, calm, conditions, laid).
  DERIVED. THE GIVEN ROWS OF THIS SEAT. 9 by the template 'for every input the law returns true; each argument reads behind the call as it read before'; 0 by the template 'total and deterministic' (their statements: Qxb6600058aTotals.lean).
  GIVEN WITH THE SEED: the statements are not yours to turn. If you find one false, say at which input.
  Laid BY PROGRAM, IN A SANDBOX (cutbox-rows.mjs): the forced cells as the released guide's own fill.sh prints them over the translation c5f02e5642aaf755… (all of the seat's roots in one cut). By AI agents, Wed Nov 11 2026. No macro, syntax, notation, axiom, sorry.
-/
import Derived.Test.Qxb6600058aChecked
import GoSem.Claim
import GoSem.ClaimJoined
import GoSem.ClaimMapViews
import Derived.JoinedTies
import Derived.KernelRfl
namespace Go.Proofs.Qxb6600058a
/- THE CELL 'sum', in the pinned program and in every row, IS THE sha256 OF THE DUMP (.gsa) THAT Qxb6600058aProg.lean LOADS. Nothing in Lean hashes anything: it is a label: what it is worth is what the hold of that sum in a sandbox is worth. -/
noncomputable def Try.pinned : Pinned := { name := "qxb6600058a", sum := "c5f02e5642aaf75580f13fb9c8cb32206bad49104e655a894d50b4bb1f3128d2", checked := Try.checked }
namespace Rows
def none {H : Type} : Left H := { results := [], args := [] }

/-- 'zzlaws_root_b1.FnFreeRankIsLowestFree': WHATEVER THE INPUT: true; the input reads as it did. -/
def fnFreeRankIsLowestFreeSpec : ChangeSpec := { name := "fnFreeRankIsLowestFree", fn := fun _ => fun
  | [d1, d2, d3, d4] => { results := [.lit (.bool true)], args := [d1, d2, d3, d4] }
  | _ => none }
def fnFreeRankIsLowestFreeRow : OpenClaim := { program := "qxb6600058a", sum := "c5f02e5642aaf75580f13fb9c8cb32206bad49104e655a894d50b4bb1f3128d2", func := "example.com/clockring/clockring/zzlaws_root_b1.FnFreeRankIsLowestFree", spec := "fnFreeRankIsLowestFree", apart := false }
def FnFreeRankIsLowestFreeSaid : Prop := fnFreeRankIsLowestFreeRow.holds Try.pinned (OpenSpec.ofChange fnFreeRankIsLowestFreeSpec)

/-- ITS FALSE NEIGHBOUR: 'it returns false'. Refute it at one input. -/
def fnFreeRankIsLowestFreeWrong : ChangeSpec := { name := "fnFreeRankIsLowestFree", fn := fun _ => fun
  | [d1, d2, d3, d4] => { results := [.lit (.bool false)], args := [d1, d2, d3, d4] }
  | _ => none }
def FnFreeRankIsLowestFreeWrongFalsely : Prop := fnFreeRankIsLowestFreeRow.holds Try.pinned (OpenSpec.ofChange fnFreeRankIsLowestFreeWrong)

/-- 'zzlaws_root_b1.FnFreeRankHandsOutEveryFreeRankOnce': WHATEVER THE INPUT: true; the input reads as it did. -/
def fnFreeRankHandsOutEveryFreeRankOnceSpec : ChangeSpec := { name := "fnFreeRankHandsOutEveryFreeRankOnce", fn := fun _ => fun
  | [d1, d2, d3, d4] => { results := [.lit (.bool true)], args := [d1, d2, d3, d4] }
  | _ => none }
def fnFreeRankHandsOutEveryFreeRankOnceRow : OpenClaim := { program := "qxb6600058a", sum := "c5f02e5642aaf75580f13fb9c8cb32206bad49104e655a894d50b4bb1f3128d2", func := "example.com/clockring/clockring/zzlaws_root_b1.FnFreeRankHandsOutEveryFreeRankOnce", spec := "fnFreeRankHandsOutEveryFreeRankOnce", apart := false }
def FnFreeRankHandsOutEveryFreeRankOnceSaid : Prop := fnFreeRankHandsOutEveryFreeRankOnceRow.holds Try.pinned (OpenSpec.ofChange fnFreeRankHandsOutEveryFreeRankOnceSpec)

/-- ITS FALSE NEIGHBOUR: 'it returns false'. Refute it at one input. -/
def fnFreeRankHandsOutEveryFreeRankOnceWrong : ChangeSpec := { name := "fnFreeRankHandsOutEveryFreeRankOnce", fn := fun _ => fun
  | [d1, d2, d3, d4] => { results := [.lit (.bool false)], args := [d1, d2, d3, d4] }
  | _ => none }
def FnFreeRankHandsOutEveryFreeRankOnceWrongFalsely : Prop := fnFreeRankHandsOutEveryFreeRankOnceRow.holds Try.pinned (OpenSpec.ofChange fnFreeRankHandsOutEveryFreeRankOnceWrong)

/-- 'zzlaws_root_b1.FnFreeRankMoreTakenNeverLower': WHATEVER THE INPUT: true; the input reads as it did. -/
def fnFreeRankMoreTakenNeverLowerSpec : ChangeSpec := { name := "fnFreeRankMoreTakenNeverLower", fn := fun _ => fun
  | [d1, d2, d3, d4, d5] => { results := [.lit (.bool true)], args := [d1, d2, d3, d4, d5] }
  | _ => none }
def fnFreeRankMoreTakenNeverLowerRow : OpenClaim := { program := "qxb6600058a", sum := "c5f02e5642aaf75580f13fb9c8cb32206bad49104e655a894d50b4bb1f3128d2", func := "example.com/clockring/clockring/zzlaws_root_b1.FnFreeRankMoreTakenNeverLower", spec := "fnFreeRankMoreTakenNeverLower", apart := false }
def FnFreeRankMoreTakenNeverLowerSaid : Prop := fnFreeRankMoreTakenNeverLowerRow.holds Try.pinned (OpenSpec.ofChange fnFreeRankMoreTakenNeverLowerSpec)

/-- ITS FALSE NEIGHBOUR: 'it returns false'. Refute it at one input. -/
def fnFreeRankMoreTakenNeverLowerWrong : ChangeSpec := { name := "fnFreeRankMoreTakenNeverLower", fn := fun _ => fun
  | [d1, d2, d3, d4, d5] => { results := [.lit (.bool false)], args := [d1, d2, d3, d4, d5] }
  | _ => none }
def FnFreeRankMoreTakenNeverLowerWrongFalsely : Prop := fnFreeRankMoreTakenNeverLowerRow.holds Try.pinned (OpenSpec.ofChange fnFreeRankMoreTakenNeverLowerWrong)

/-- 'zzlaws_root_b1.FnRemoveRefusesSelfAndNonMembers': WHATEVER THE INPUT: true; the input reads as it did. -/
def fnRemoveRefusesSelfAndNonMembersSpec : ChangeSpec := { name := "fnRemoveRefusesSelfAndNonMembers", fn := fun _ => fun
  | [d1, d2, d3, d4, d5, d6, d7, d8, d9, d10] => { results := [.lit (.bool true)], args := [d1, d2, d3, d4, d5, d6, d7, d8, d9, d10] }
  | _ => none }
def fnRemoveRefusesSelfAndNonMembersRow : OpenClaim := { program := "qxb6600058a", sum := "c5f02e5642aaf75580f13fb9c8cb32206bad49104e655a894d50b4bb1f3128d2", func := "example.com/clockring/clockring/zzlaws_root_b1.FnRemoveRefusesSelfAndNonMembers", spec := "fnRemoveRefusesSelfAndNonMembers", apart := false }
def FnRemoveRefusesSelfAndNonMembersSaid : Prop := fnRemoveRefusesSelfAndNonMembersRow.holds Try.pinned (OpenSpec.ofChange fnRemoveRefusesSelfAndNonMembersSpec)

/-- ITS FALSE NEIGHBOUR: 'it returns false'. Refute it at one input. -/
def fnRemoveRefusesSelfAndNonMembersWrong : ChangeSpec := { name := "fnRemoveRefusesSelfAndNonMembers", fn := fun _ => fun
  | [d1, d2, d3, d4, d5, d6, d7, d8, d9, d10] => { results := [.lit (.bool false)], args := [d1, d2, d3, d4, d5, d6, d7, d8, d9, d10] }
  | _ => none }
def FnRemoveRefusesSelfAndNonMembersWrongFalsely : Prop := fnRemoveRefusesSelfAndNonMembersRow.holds Try.pinned (OpenSpec.ofChange fnRemoveRefusesSelfAndNonMembersWrong)

/-- 'zzlaws_root_b1.FnRemoveTakesOutFirstOccurrence': WHATEVER THE INPUT: true; the input reads as it did. -/
def fnRemoveTakesOutFirstOccurrenceSpec : ChangeSpec := { name := "fnRemoveTakesOutFirstOccurrence", fn := fun _ => fun
  | [d1, d2, d3, d4, d5, d6, d7, d8, d9, d10] => { results := [.lit (.bool true)], args := [d1, d2, d3, d4, d5, d6, d7, d8, d9, d10] }
  | _ => none }
def fnRemoveTakesOutFirstOccurrenceRow : OpenClaim := { program := "qxb6600058a", sum := "c5f02e5642aaf75580f13fb9c8cb32206bad49104e655a894d50b4bb1f3128d2", func := "example.com/clockring/clockring/zzlaws_root_b1.FnRemoveTakesOutFirstOccurrence", spec := "fnRemoveTakesOutFirstOccurrence", apart := false }
def FnRemoveTakesOutFirstOccurrenceSaid : Prop := fnRemoveTakesOutFirstOccurrenceRow.holds Try.pinned (OpenSpec.ofChange fnRemoveTakesOutFirstOccurrenceSpec)

/-- ITS FALSE NEIGHBOUR: 'it returns false'. Refute it at one input. -/
def fnRemoveTakesOutFirstOccurrenceWrong : ChangeSpec := { name := "fnRemoveTakesOutFirstOccurrence", fn := fun _ => fun
  | [d1, d2, d3, d4, d5, d6, d7, d8, d9, d10] => { results := [.lit (.bool false)], args := [d1, d2, d3, d4, d5, d6, d7, d8, d9, d10] }
  | _ => none }
def FnRemoveTakesOutFirstOccurrenceWrongFalsely : Prop := fnRemoveTakesOutFirstOccurrenceRow.holds Try.pinned (OpenSpec.ofChange fnRemoveTakesOutFirstOccurrenceWrong)

/-- 'zzlaws_root_b1.FnRemoveTwoInEitherOrder': WHATEVER THE INPUT: true; the input reads as it did. -/
def fnRemoveTwoInEitherOrderSpec : ChangeSpec := { name := "fnRemoveTwoInEitherOrder", fn := fun _ => fun
  | [d1, d2, d3, d4, d5, d6, d7, d8, d9, d10, d11, d12] => { results := [.lit (.bool true)], args := [d1, d2, d3, d4, d5, d6, d7, d8, d9, d10, d11, d12] }
  | _ => none }
def fnRemoveTwoInEitherOrderRow : OpenClaim := { program := "qxb6600058a", sum := "c5f02e5642aaf75580f13fb9c8cb32206bad49104e655a894d50b4bb1f3128d2", func := "example.com/clockring/clockring/zzlaws_root_b1.FnRemoveTwoInEitherOrder", spec := "fnRemoveTwoInEitherOrder", apart := false }
def FnRemoveTwoInEitherOrderSaid : Prop := fnRemoveTwoInEitherOrderRow.holds Try.pinned (OpenSpec.ofChange fnRemoveTwoInEitherOrderSpec)

/-- ITS FALSE NEIGHBOUR: 'it returns false'. Refute it at one input. -/
def fnRemoveTwoInEitherOrderWrong : ChangeSpec := { name := "fnRemoveTwoInEitherOrder", fn := fun _ => fun
  | [d1, d2, d3, d4, d5, d6, d7, d8, d9, d10, d11, d12] => { results := [.lit (.bool false)], args := [d1, d2, d3, d4, d5, d6, d7, d8, d9, d10, d11, d12] }
  | _ => none }
def FnRemoveTwoInEitherOrderWrongFalsely : Prop := fnRemoveTwoInEitherOrderRow.holds Try.pinned (OpenSpec.ofChange fnRemoveTwoInEitherOrderWrong)

/-- 'zzlaws_root_b1.FnNeighbourComposes': WHATEVER THE INPUT: true; the input reads as it did. -/
def fnNeighbourComposesSpec : ChangeSpec := { name := "fnNeighbourComposes", fn := fun _ => fun
  | [d1, d2, d3, d4, d5] => { results := [.lit (.bool true)], args := [d1, d2, d3, d4, d5] }
  | _ => none }
def fnNeighbourComposesRow : OpenClaim := { program := "qxb6600058a", sum := "c5f02e5642aaf75580f13fb9c8cb32206bad49104e655a894d50b4bb1f3128d2", func := "example.com/clockring/clockring/zzlaws_root_b1.FnNeighbourComposes", spec := "fnNeighbourComposes", apart := false }
def FnNeighbourComposesSaid : Prop := fnNeighbourComposesRow.holds Try.pinned (OpenSpec.ofChange fnNeighbourComposesSpec)

/-- ITS FALSE NEIGHBOUR: 'it returns false'. Refute it at one input. -/
def fnNeighbourComposesWrong : ChangeSpec := { name := "fnNeighbourComposes", fn := fun _ => fun
  | [d1, d2, d3, d4, d5] => { results := [.lit (.bool false)], args := [d1, d2, d3, d4, d5] }
  | _ => none }
def FnNeighbourComposesWrongFalsely : Prop := fnNeighbourComposesRow.holds Try.pinned (OpenSpec.ofChange fnNeighbourComposesWrong)

/-- 'zzlaws_root_b1.FnNeighbourPeriodic': WHATEVER THE INPUT: true; the input reads as it did. -/
def fnNeighbourPeriodicSpec : ChangeSpec := { name := "fnNeighbourPeriodic", fn := fun _ => fun
  | [d1, d2, d3, d4] => { results := [.lit (.bool true)], args := [d1, d2, d3, d4] }
  | _ => none }
def fnNeighbourPeriodicRow : OpenClaim := { program := "qxb6600058a", sum := "c5f02e5642aaf75580f13fb9c8cb32206bad49104e655a894d50b4bb1f3128d2", func := "example.com/clockring/clockring/zzlaws_root_b1.FnNeighbourPeriodic", spec := "fnNeighbourPeriodic", apart := false }
def FnNeighbourPeriodicSaid : Prop := fnNeighbourPeriodicRow.holds Try.pinned (OpenSpec.ofChange fnNeighbourPeriodicSpec)

/-- ITS FALSE NEIGHBOUR: 'it returns false'. Refute it at one input. -/
def fnNeighbourPeriodicWrong : ChangeSpec := { name := "fnNeighbourPeriodic", fn := fun _ => fun
  | [d1, d2, d3, d4] => { results := [.lit (.bool false)], args := [d1, d2, d3, d4] }
  | _ => none }
def FnNeighbourPeriodicWrongFalsely : Prop := fnNeighbourPeriodicRow.holds Try.pinned (OpenSpec.ofChange fnNeighbourPeriodicWrong)

/-- 'zzlaws_root_b1.FnNeighbourOneStepIsNextReachable': WHATEVER THE INPUT: true; the input reads as it did. -/
def fnNeighbourOneStepIsNextReachableSpec : ChangeSpec := { name := "fnNeighbourOneStepIsNextReachable", fn := fun _ => fun
  | [d1, d2, d3] => { results := [.lit (.bool true)], args := [d1, d2, d3] }
  | _ => none }
def fnNeighbourOneStepIsNextReachableRow : OpenClaim := { program := "qxb6600058a", sum := "c5f02e5642aaf75580f13fb9c8cb32206bad49104e655a894d50b4bb1f3128d2", func := "example.com/clockring/clockring/zzlaws_root_b1.FnNeighbourOneStepIsNextReachable", spec := "fnNeighbourOneStepIsNextReachable", apart := false }
def FnNeighbourOneStepIsNextReachableSaid : Prop := fnNeighbourOneStepIsNextReachableRow.holds Try.pinned (OpenSpec.ofChange fnNeighbourOneStepIsNextReachableSpec)

/-- ITS FALSE NEIGHBOUR: 'it returns false'. Refute it at one input. -/
def fnNeighbourOneStepIsNextReachableWrong : ChangeSpec := { name := "fnNeighbourOneStepIsNextReachable", fn := fun _ => fun
  | [d1, d2, d3] => { results := [.lit (.bool false)], args := [d1, d2, d3] }
  | _ => none }
def FnNeighbourOneStepIsNextReachableWrongFalsely : Prop := fnNeighbourOneStepIsNextReachableRow.holds Try.pinned (OpenSpec.ofChange fnNeighbourOneStepIsNextReachableWrong)

end Rows
end Go.Proofs.Qxb6600058a
