/-
  CLOSED FACTS OF THE ROWS, made cheap: the head's words ('make', 'liftsFinal', 'mayEnter') are reckoned once, from the list of signs of 'initOrder' ('String.toList_ofList'), and not by the kernel's decoding of the string.
-/
import Derived.Test.Qxb6600314aRows
import Derived.WalkKit
import Derived.ProofKit
namespace Go.Proofs.Qxb6600314a.Facts

theorem make_of (P : Program) (rest : List (List Char)) (h : behindMainWord (wordsSigns P.initOrder.toList) = "cut".toList :: rest) : P.make = some .cut := by
  unfold Program.make
  rw [h]
  rfl

theorem lifts_of (P : Program) (rest : List (List Char)) (h : behindMainWord (wordsSigns P.initOrder.toList) = "cut".toList :: rest) : P.liftsFinal = false := by
  unfold Program.liftsFinal Program.headLifts
  rw [h]
  rfl

theorem may_of (P : Program) (rest : List (List Char)) (h : behindMainWord (wordsSigns P.initOrder.toList) = "cut".toList :: rest)
    (h1 : P.laysLater = false) (h2 : P.bearsReflect = false) (h3 : P.doorFits [] = true) : P.mayEnter = true := by
  unfold Program.mayEnter
  rw [h]
  have e : stripLifts liftWords ("cut".toList :: rest) = ([], "cut".toList :: rest) := rfl
  simp only [h1, h2, e, h3]
  rfl

set_option maxRecDepth 100000 in
theorem head : ∃ rest, behindMainWord (wordsSigns Try.prog.initOrder.toList) = "cut".toList :: rest := by
  have e : Try.prog.initOrder.toList = _ := String.toList_ofList
  rw [e]
  exact ⟨_, rfl⟩

theorem make : Try.prog.make = some .cut := by
  obtain ⟨rest, h⟩ := head
  exact make_of _ rest h

theorem may : Try.prog.mayEnter = true := by
  obtain ⟨rest, h⟩ := head
  exact may_of _ rest h (by kernel_rfl) (by kernel_rfl) (by kernel_rfl)

theorem lift : Try.prog.liftsFinal = false := by
  obtain ⟨rest, h⟩ := head
  exact lifts_of _ rest h

theorem closed6 : joinedFacts Try.prog 6 Try.f6 Rows.fnShortestPathObeysTriangleInequalitySpec Rows.fnShortestPathObeysTriangleInequalityRow = true := by
  unfold joinedFacts
  rw [may, lift, make]
  kernel_rfl

theorem closed5 : joinedFacts Try.prog 5 Try.f5 Rows.fnShortestPathIsAShortestWalkSpec Rows.fnShortestPathIsAShortestWalkRow = true := by
  unfold joinedFacts
  rw [may, lift, make]
  kernel_rfl

end Go.Proofs.Qxb6600314a.Facts
