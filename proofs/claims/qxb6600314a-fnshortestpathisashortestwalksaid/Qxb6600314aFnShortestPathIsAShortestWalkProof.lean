/-
  THE ROW's STEP for 'Rows.FnShortestPathIsAShortestWalkSaid', after the guide's own frame for a law over slices (a slice of slices of integers by 'open_int_rows').
-/
import Derived.Test.Qxb6600314aRows
import Derived.Test.Qxb6600314aFacts
import Derived.Test.Qxb6600314aLaw5
import Derived.WalkKit
import Derived.ProofKit
import Derived.OpenShut
import Derived.ChangeOld
import Derived.Below
import Derived.ChangeSlices
import Derived.Deep.Matrix
namespace Go.Proofs.Qxb6600314a.fnShortestPathIsAShortestWalk
open Go.ChangeShapes Go.WideShapes Go.ChangeAt Go.RowKit
set_option linter.unusedVariables false

theorem own : ownKnob Try.prog.godebug = none := by kernel_rfl
theorem laidOut : laidOutB Try.prog = true := by kernel_rfl

theorem spot_none {w : World} {x : Addr} {v : Value} (h : w.cell? (x.add 0) = some v) : x = ⟨x.block, x.off, none⟩ := by
  obtain ⟨b, off, spot⟩ := x
  have hspot : spot = none := by simpa [Addr.add] using World.cell?_spot h
  rw [hspot]

set_option maxRecDepth 100000 in
theorem lifted (os : Os) (started : os.Started) (H : Type) (enc : TypeId × Value → H) :
    ReturnsInHanded {} Try.checked os 5 .any (Rows.fnShortestPathIsAShortestWalkSpec.pre6 enc Try.prog Try.f5 Rows.fnShortestPathIsAShortestWalkRow.domain false) (Rows.fnShortestPathIsAShortestWalkSpec.post enc Try.prog Try.f5 false true false false) := by
  refine returnsInHanded_of_change (C := Try.checked) own started (by kernel_rfl) Try.func5
    (ChangeSpec.witness6 (enc := enc) (C := Try.checked) false ⟨#[], #[.slice none 0 0, .int .i64 0, .int .i64 0], []⟩ 8 (by kernel_rfl) (by kernel_rfl) (by kernel_rfl) (by kernel_rfl)) ?_
  intro W base args ds gs before hval0 hW hcnd _
  have hval : ∀ (j : Nat) t v, Try.f5.params[j]? = some t → args[j]? = some v → Value.okWide Try.prog W .any base t v := hval0
  have hW' := hW
  obtain ⟨p, q, hA0, hV, rfl, hfz, hnd⟩ := hW
  have hA : DataW.TrodAll enc Try.prog W 0 (fun _ => true) true Try.f5.params.toList args.toList ds p := hA0
  rw [Try.params5] at hA hval
  obtain ⟨v0, vs0, d0, ds0, p0, q0, hargs, rfl, rfl, h0, r0⟩ := trodAll_cons hA
  obtain ⟨v1, vs1, d1, ds1, p1, q1, rfl, rfl, rfl, h1, r1⟩ := trodAll_cons r0
  obtain ⟨v2, vs2, d2, ds2, p2, q2, rfl, rfl, rfl, h2, r2⟩ := trodAll_cons r1
  obtain ⟨rfl, rfl, rfl⟩ := trodAll_nil r2
  obtain rfl : args = #[v0, v1, v2] := by cases args; simp_all
  obtain ⟨rfl, rfl⟩ := trodVars_none hV
  obtain ⟨a0, len0, cap0, rfl⟩ := okWide_slice Try.underlying22 (hval 0 22 v0 rfl rfl)
  have k0 := h0
  have lt0 : ∀ x ∈ p0, x.block < W.heap.size := by obtain ⟨m, hm⟩ := k0; exact DataW.trod_lt m _ _ _ hm
  obtain ⟨Z, w0⟩ : ∃ Z, InG W a0 len0 Z := by
    obtain ⟨fuel, hf⟩ := h0
    rcases Go.Deep.open_int_rows Try.underlying22 Try.underlying25 Try.underlying3 (by kernel_rfl) (by kernel_rfl) hf with ⟨hcs, _⟩ | ⟨x, l, c, A, L, C, Z, hcs, _, hl, hm, _, hrow⟩
    · simp [Value.cells] at hcs
      obtain ⟨rfl, rfl, rfl⟩ := hcs
      exact ⟨fun _ => [], fun i hi => by omega, fun i hi => by omega, Nat.zero_le _⟩
    · simp [Value.cells] at hcs
      obtain ⟨rfl, rfl, rfl⟩ := hcs
      have hlenZ : ∀ i, i < len0 → ((Z i).take (L i)).length = L i := fun i hi => by
        obtain ⟨_, e1, _, e2, _⟩ := hrow i (by omega)
        rw [List.length_take, e2]
        omega
      refine ⟨fun i => (Z i).take (L i), fun i hi => ?_, fun i hi => ?_, Nat.le_trans hl hm⟩
      · obtain ⟨g1, g2, g3, g4, g5, g6, g7⟩ := hrow i (by omega)
        have hx := spot_none (hrow 0 (by omega)).1
        refine ⟨x.block, x.off, by rw [← hx], A i, C i, ?_, fun e => ?_, fun k z hk => ?_⟩
        · rw [hlenZ i hi]
          rw [hx, Addr.add_lit] at g1
          exact g1
        · have := g6 e
          rw [hlenZ i hi]
          omega
        · rw [List.getElem?_take] at hk
          split at hk
          · next hkl =>
            cases hA2 : A i with
            | none => have := g6 hA2; omega
            | some ad =>
              have hc := (g7 ad hA2).2 k (by omega)
              have hx2 := spot_none ((g7 ad hA2).2 0 (by omega))
              refine ⟨ad.block, ad.off, by rw [← hx2], ?_⟩
              rw [hx2, Addr.add_lit] at hc
              have hz : (Z i).getD k 0 = z := by simp [hk]
              rw [hz] at hc
              exact hc
          · cases hk
      · show ((Z i).take (L i)).length ≤ maxLen
        obtain ⟨_, e1, e2, _⟩ := hrow i (by omega)
        rw [hlenZ i hi]
        omega
  obtain ⟨a1, rfl, rfl, rfl, w1⟩ := open_int Try.underlying3 (hval 1 3 v1 rfl rfl) h1
  obtain ⟨a2, rfl, rfl, rfl, w2⟩ := open_int Try.underlying3 (hval 2 3 v2 rfl rfl) h2
  clear hA0 hval0
  refine (law5 W a0 len0 cap0 Z w0 a1 a2).mono fun e W' ⟨he, bel⟩ => ?_
  subst he
  exact ⟨_, rfl, _, _, _, [], _, [], hW', trodAll_mk1 (shut_bool Try.underlying4 _), (trodAll_cons_mk (Below.trod laidOut (by kernel_rfl) (of_decide_eq_true (by kernel_rfl)) k0 bel lt0) (trodAll_cons_mk (shut_int Try.underlying3 w1) (trodAll_cons_mk (shut_int Try.underlying3 w2) trodAll_mk0))), rfl, bel.frame _, fun h => by cases h⟩

theorem over : Rows.fnShortestPathIsAShortestWalkRow.holds Try.pinned (OpenSpec.ofChange Rows.fnShortestPathIsAShortestWalkSpec) :=
  OpenClaim.holds_of_wide 5 Try.f5 rfl rfl rfl rfl rfl rfl rfl ⟨rfl, rfl, rfl, rfl, rfl⟩ rfl rfl rfl rfl rfl (by kernel_rfl) Try.func5 Facts.closed5
    (of_decide_eq_true (by kernel_rfl)) (by unfold Func.isWrapper; first | (rw [if_pos (by decide +kernel)]; kernel_rfl) | (rw [if_neg (by decide +kernel)]; exact ⟨rfl, rfl⟩))
    (fun os started H enc _ => lifted os started H enc)
end Go.Proofs.Qxb6600314a.fnShortestPathIsAShortestWalk

namespace Go.Proofs.Qxb6600314a
/-- THE STATEMENT -/
theorem fnShortestPathIsAShortestWalk_proved : Rows.FnShortestPathIsAShortestWalkSaid := fnShortestPathIsAShortestWalk.over
end Go.Proofs.Qxb6600314a
