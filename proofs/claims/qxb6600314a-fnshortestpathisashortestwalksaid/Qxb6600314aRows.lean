/-
  No cell of these rows narrows 'for every input' (looked for: loops, veiled, ifaces, maps, wideKeys, modest, calm, conditions, laid).
  DERIVED. THE GIVEN ROWS OF THIS SEAT. 4 by the template 'for every input the law returns true; each argument reads behind the call as it read before'; 0 by the template 'total and deterministic' (their statements: Qxb6600314aTotals.lean).
  GIVEN WITH THE SEED: the statements are not yours to turn. If you find one false, say at which input.
  Laid BY PROGRAM, IN A SANDBOX (cutbox-rows.mjs): the forced cells as the released guide's own fill.sh prints them over the translation 9c78bb8ce40f64ad… (all of the seat's roots in one cut). By AI agents, Wed Nov 11 2026. No macro, syntax, notation, axiom, sorry.
-/
import Derived.Test.Qxb6600314aChecked
import GoSem.Claim
import GoSem.ClaimJoined
import GoSem.ClaimMapViews
import Derived.JoinedTies
import Derived.KernelRfl
namespace Go.Proofs.Qxb6600314a
/- THE CELL 'sum', in the pinned program and in every row, IS THE sha256 OF THE DUMP (.gsa) THAT Qxb6600314aProg.lean LOADS. Nothing in Lean hashes anything: it is a label: what it is worth is what the hold of that sum in a sandbox is worth. -/
noncomputable def Try.pinned : Pinned := { name := "qxb6600314a", sum := "9c78bb8ce40f64ade69f49cd5d3509fe1f6c9413ca4acea902e352051b9aebf1", checked := Try.checked }
namespace Rows
def none {H : Type} : Left H := { results := [], args := [] }

/-- 'zzlaws_internal_graph_b1.FnComponentsAgreeWithKosaraju': WHATEVER THE INPUT: true; the input reads as it did. -/
def fnComponentsAgreeWithKosarajuSpec : ChangeSpec := { name := "fnComponentsAgreeWithKosaraju", fn := fun _ => fun
  | [d] => { results := [.lit (.bool true)], args := [d] }
  | _ => none }
def fnComponentsAgreeWithKosarajuRow : OpenClaim := { program := "qxb6600314a", sum := "9c78bb8ce40f64ade69f49cd5d3509fe1f6c9413ca4acea902e352051b9aebf1", func := "example.com/tessera/tessera/zzlaws_internal_graph_b1.FnComponentsAgreeWithKosaraju", spec := "fnComponentsAgreeWithKosaraju", unfollowed := true, recurses := true, apart := false }
def FnComponentsAgreeWithKosarajuSaid : Prop := fnComponentsAgreeWithKosarajuRow.holds Try.pinned (OpenSpec.ofChange fnComponentsAgreeWithKosarajuSpec)

/-- ITS FALSE NEIGHBOUR: 'it returns false'. Refute it at one input. -/
def fnComponentsAgreeWithKosarajuWrong : ChangeSpec := { name := "fnComponentsAgreeWithKosaraju", fn := fun _ => fun
  | [d] => { results := [.lit (.bool false)], args := [d] }
  | _ => none }
def FnComponentsAgreeWithKosarajuWrongFalsely : Prop := fnComponentsAgreeWithKosarajuRow.holds Try.pinned (OpenSpec.ofChange fnComponentsAgreeWithKosarajuWrong)

/-- 'zzlaws_internal_graph_b1.FnComponentsOfBackwardGraphAreThePositions': WHATEVER THE INPUT: true; the input reads as it did. -/
def fnComponentsOfBackwardGraphAreThePositionsSpec : ChangeSpec := { name := "fnComponentsOfBackwardGraphAreThePositions", fn := fun _ => fun
  | [d] => { results := [.lit (.bool true)], args := [d] }
  | _ => none }
def fnComponentsOfBackwardGraphAreThePositionsRow : OpenClaim := { program := "qxb6600314a", sum := "9c78bb8ce40f64ade69f49cd5d3509fe1f6c9413ca4acea902e352051b9aebf1", func := "example.com/tessera/tessera/zzlaws_internal_graph_b1.FnComponentsOfBackwardGraphAreThePositions", spec := "fnComponentsOfBackwardGraphAreThePositions", unfollowed := true, recurses := true, apart := false }
def FnComponentsOfBackwardGraphAreThePositionsSaid : Prop := fnComponentsOfBackwardGraphAreThePositionsRow.holds Try.pinned (OpenSpec.ofChange fnComponentsOfBackwardGraphAreThePositionsSpec)

/-- ITS FALSE NEIGHBOUR: 'it returns false'. Refute it at one input. -/
def fnComponentsOfBackwardGraphAreThePositionsWrong : ChangeSpec := { name := "fnComponentsOfBackwardGraphAreThePositions", fn := fun _ => fun
  | [d] => { results := [.lit (.bool false)], args := [d] }
  | _ => none }
def FnComponentsOfBackwardGraphAreThePositionsWrongFalsely : Prop := fnComponentsOfBackwardGraphAreThePositionsRow.holds Try.pinned (OpenSpec.ofChange fnComponentsOfBackwardGraphAreThePositionsWrong)

/-- 'zzlaws_internal_graph_b1.FnShortestPathIsAShortestWalk': WHATEVER THE INPUT: true; the input reads as it did. -/
def fnShortestPathIsAShortestWalkSpec : ChangeSpec := { name := "fnShortestPathIsAShortestWalk", fn := fun _ => fun
  | [d1, d2, d3] => { results := [.lit (.bool true)], args := [d1, d2, d3] }
  | _ => none }
def fnShortestPathIsAShortestWalkRow : OpenClaim := { program := "qxb6600314a", sum := "9c78bb8ce40f64ade69f49cd5d3509fe1f6c9413ca4acea902e352051b9aebf1", func := "example.com/tessera/tessera/zzlaws_internal_graph_b1.FnShortestPathIsAShortestWalk", spec := "fnShortestPathIsAShortestWalk", unfollowed := true, recurses := true, apart := false }
def FnShortestPathIsAShortestWalkSaid : Prop := fnShortestPathIsAShortestWalkRow.holds Try.pinned (OpenSpec.ofChange fnShortestPathIsAShortestWalkSpec)

/-- ITS FALSE NEIGHBOUR: 'it returns false'. Refute it at one input. -/
def fnShortestPathIsAShortestWalkWrong : ChangeSpec := { name := "fnShortestPathIsAShortestWalk", fn := fun _ => fun
  | [d1, d2, d3] => { results := [.lit (.bool false)], args := [d1, d2, d3] }
  | _ => none }
def FnShortestPathIsAShortestWalkWrongFalsely : Prop := fnShortestPathIsAShortestWalkRow.holds Try.pinned (OpenSpec.ofChange fnShortestPathIsAShortestWalkWrong)

/-- 'zzlaws_internal_graph_b1.FnShortestPathObeysTriangleInequality': WHATEVER THE INPUT: true; the input reads as it did. -/
def fnShortestPathObeysTriangleInequalitySpec : ChangeSpec := { name := "fnShortestPathObeysTriangleInequality", fn := fun _ => fun
  | [d1, d2, d3, d4] => { results := [.lit (.bool true)], args := [d1, d2, d3, d4] }
  | _ => none }
def fnShortestPathObeysTriangleInequalityRow : OpenClaim := { program := "qxb6600314a", sum := "9c78bb8ce40f64ade69f49cd5d3509fe1f6c9413ca4acea902e352051b9aebf1", func := "example.com/tessera/tessera/zzlaws_internal_graph_b1.FnShortestPathObeysTriangleInequality", spec := "fnShortestPathObeysTriangleInequality", unfollowed := true, recurses := true, apart := false }
def FnShortestPathObeysTriangleInequalitySaid : Prop := fnShortestPathObeysTriangleInequalityRow.holds Try.pinned (OpenSpec.ofChange fnShortestPathObeysTriangleInequalitySpec)

/-- ITS FALSE NEIGHBOUR: 'it returns false'. Refute it at one input. -/
def fnShortestPathObeysTriangleInequalityWrong : ChangeSpec := { name := "fnShortestPathObeysTriangleInequality", fn := fun _ => fun
  | [d1, d2, d3, d4] => { results := [.lit (.bool false)], args := [d1, d2, d3, d4] }
  | _ => none }
def FnShortestPathObeysTriangleInequalityWrongFalsely : Prop := fnShortestPathObeysTriangleInequalityRow.holds Try.pinned (OpenSpec.ofChange fnShortestPathObeysTriangleInequalityWrong)

end Rows
end Go.Proofs.Qxb6600314a
