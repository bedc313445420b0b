/-
  THE ROW's STEP for 'Rows.FnJoinWritesOnlyRoomAfterOwnedElementsSaid', after the guide's own frame for a law over slices (slices of integers by 'open_ints', of bools by 'open_bools').
-/
import Derived.Test.Qxb6600280aRows
import Derived.Test.Qxb6600280aFacts
import Derived.Test.Qxb6600280aLaw
import Derived.WalkKit
import Derived.ProofKit
import Derived.OpenShut
import Derived.ChangeOld
import Derived.Below
import Derived.ChangeSlices
import Derived.Deep.Grids
namespace Go.Proofs.Qxb6600280a.fnJoinWritesOnlyRoomAfterOwnedElements
open Go.ChangeShapes Go.WideShapes Go.ChangeAt Go.RowKit
set_option linter.unusedVariables false

theorem own : ownKnob Try.prog.godebug = none := by kernel_rfl
theorem laidOut : laidOutB Try.prog = true := by kernel_rfl

theorem has_of_cells {w : World} {x : Addr} {len cap : Nat} {vs : List Value} (hl : vs.length = len) (hc : ∀ i v, vs[i]? = some v → w.cell? (x.add i) = some v) : Has w (some x) len cap vs :=
  ⟨fun h => (by cases h), fun ad had j u hu => by obtain rfl := Option.some.inj had; exact hc j u hu, hl⟩

set_option maxRecDepth 100000 in
theorem lifted (os : Os) (started : os.Started) (H : Type) (enc : TypeId × Value → H) :
    ReturnsInHanded {} Try.checked os 9 .any (Rows.fnJoinWritesOnlyRoomAfterOwnedElementsSpec.pre6 enc Try.prog Try.f9 Rows.fnJoinWritesOnlyRoomAfterOwnedElementsRow.domain false) (Rows.fnJoinWritesOnlyRoomAfterOwnedElementsSpec.post enc Try.prog Try.f9 false true false false) := by
  refine returnsInHanded_of_change (C := Try.checked) own started (by kernel_rfl) Try.func9
    (ChangeSpec.witness6 (enc := enc) (C := Try.checked) false ⟨#[], #[.slice none 0 0, .slice none 0 0, .slice none 0 0, .slice none 0 0, .slice none 0 0, .int .i64 0, .int .i64 0], []⟩ 8 (by kernel_rfl) (by kernel_rfl) (by kernel_rfl) (by kernel_rfl)) ?_
  intro W base args ds gs before hval0 hW hcnd _
  have hval : ∀ (j : Nat) t v, Try.f9.params[j]? = some t → args[j]? = some v → Value.okWide Try.prog W .any base t v := hval0
  have hW' := hW
  obtain ⟨p, q, hA0, hV, rfl, hfz, hnd⟩ := hW
  have hA : DataW.TrodAll enc Try.prog W 0 (fun _ => true) true Try.f9.params.toList args.toList ds p := hA0
  rw [Try.params9] at hA hval
  obtain ⟨v0, vs0, d0, ds0, p0, q0, hargs, rfl, rfl, h0, r0⟩ := trodAll_cons hA
  obtain ⟨v1, vs1, d1, ds1, p1, q1, rfl, rfl, rfl, h1, r1⟩ := trodAll_cons r0
  obtain ⟨v2, vs2, d2, ds2, p2, q2, rfl, rfl, rfl, h2, r2⟩ := trodAll_cons r1
  obtain ⟨v3, vs3, d3, ds3, p3, q3, rfl, rfl, rfl, h3, r3⟩ := trodAll_cons r2
  obtain ⟨v4, vs4, d4, ds4, p4, q4, rfl, rfl, rfl, h4, r4⟩ := trodAll_cons r3
  obtain ⟨v5, vs5, d5, ds5, p5, q5, rfl, rfl, rfl, h5, r5⟩ := trodAll_cons r4
  obtain ⟨v6, vs6, d6, ds6, p6, q6, rfl, rfl, rfl, h6, r6⟩ := trodAll_cons r5
  obtain ⟨rfl, rfl, rfl⟩ := trodAll_nil r6
  obtain rfl : args = #[v0, v1, v2, v3, v4, v5, v6] := by cases args; simp_all
  obtain ⟨rfl, rfl⟩ := trodVars_none hV
  obtain ⟨a0, len0, cap0, rfl⟩ := okWide_slice Try.underlying22 (hval 0 22 v0 rfl rfl)
  have k0 := h0
  have lt0 : ∀ x ∈ p0, x.block < W.heap.size := by obtain ⟨m, hm⟩ := k0; exact DataW.trod_lt m _ _ _ hm
  obtain ⟨z0, w0, lc0, l0⟩ : ∃ zs, HasI .u8 W a0 len0 cap0 zs ∧ len0 ≤ cap0 ∧ len0 ≤ maxLen := by
    obtain ⟨fuel, hf⟩ := h0
    rcases open_ints Try.underlying22 Try.underlying5 (by kernel_rfl) hf with ⟨hcs, _⟩ | ⟨x, l, c, zs, hcs, _, hl, hm, hz, _, hcell, hwz⟩
    · simp [Value.cells] at hcs
      obtain ⟨rfl, rfl, rfl⟩ := hcs
      exact ⟨[], ⟨fun _ => ⟨rfl, rfl⟩, fun ad h => (by cases h), rfl⟩, Nat.le_refl _, Nat.zero_le _⟩
    · simp [Value.cells] at hcs
      obtain ⟨rfl, rfl, rfl⟩ := hcs
      have hz' : zs.length = cap0 := by simpa using hz
      refine ⟨zs.take len0, has_of_cells (by simp; omega) (fun i v hv => ?_), hl, Nat.le_trans hl hm⟩
      rw [List.map_take, List.getElem?_take] at hv
      split at hv
      · have hi : i < zs.length := by omega
        rw [hcell i hi]
        simp [hi] at hv ⊢
        exact hv
      · cases hv
  obtain ⟨a1, len1, cap1, rfl⟩ := okWide_slice Try.underlying31 (hval 1 31 v1 rfl rfl)
  have k1 := h1
  have lt1 : ∀ x ∈ p1, x.block < W.heap.size := by obtain ⟨m, hm⟩ := k1; exact DataW.trod_lt m _ _ _ hm
  obtain ⟨z1, w1, lc1, l1⟩ : ∃ zs, HasI .i64 W a1 len1 cap1 zs ∧ len1 ≤ cap1 ∧ len1 ≤ maxLen := by
    obtain ⟨fuel, hf⟩ := h1
    rcases open_ints Try.underlying31 Try.underlying3 (by kernel_rfl) hf with ⟨hcs, _⟩ | ⟨x, l, c, zs, hcs, _, hl, hm, hz, _, hcell, hwz⟩
    · simp [Value.cells] at hcs
      obtain ⟨rfl, rfl, rfl⟩ := hcs
      exact ⟨[], ⟨fun _ => ⟨rfl, rfl⟩, fun ad h => (by cases h), rfl⟩, Nat.le_refl _, Nat.zero_le _⟩
    · simp [Value.cells] at hcs
      obtain ⟨rfl, rfl, rfl⟩ := hcs
      have hz' : zs.length = cap1 := by simpa using hz
      refine ⟨zs.take len1, has_of_cells (by simp; omega) (fun i v hv => ?_), hl, Nat.le_trans hl hm⟩
      rw [List.map_take, List.getElem?_take] at hv
      split at hv
      · have hi : i < zs.length := by omega
        rw [hcell i hi]
        simp [hi] at hv ⊢
        exact hv
      · cases hv
  obtain ⟨a2, len2, cap2, rfl⟩ := okWide_slice Try.underlying31 (hval 2 31 v2 rfl rfl)
  have k2 := h2
  have lt2 : ∀ x ∈ p2, x.block < W.heap.size := by obtain ⟨m, hm⟩ := k2; exact DataW.trod_lt m _ _ _ hm
  obtain ⟨z2, w2, lc2, l2⟩ : ∃ zs, HasI .i64 W a2 len2 cap2 zs ∧ len2 ≤ cap2 ∧ len2 ≤ maxLen := by
    obtain ⟨fuel, hf⟩ := h2
    rcases open_ints Try.underlying31 Try.underlying3 (by kernel_rfl) hf with ⟨hcs, _⟩ | ⟨x, l, c, zs, hcs, _, hl, hm, hz, _, hcell, hwz⟩
    · simp [Value.cells] at hcs
      obtain ⟨rfl, rfl, rfl⟩ := hcs
      exact ⟨[], ⟨fun _ => ⟨rfl, rfl⟩, fun ad h => (by cases h), rfl⟩, Nat.le_refl _, Nat.zero_le _⟩
    · simp [Value.cells] at hcs
      obtain ⟨rfl, rfl, rfl⟩ := hcs
      have hz' : zs.length = cap2 := by simpa using hz
      refine ⟨zs.take len2, has_of_cells (by simp; omega) (fun i v hv => ?_), hl, Nat.le_trans hl hm⟩
      rw [List.map_take, List.getElem?_take] at hv
      split at hv
      · have hi : i < zs.length := by omega
        rw [hcell i hi]
        simp [hi] at hv ⊢
        exact hv
      · cases hv
  obtain ⟨a3, len3, cap3, rfl⟩ := okWide_slice Try.underlying32 (hval 3 32 v3 rfl rfl)
  have k3 := h3
  have lt3 : ∀ x ∈ p3, x.block < W.heap.size := by obtain ⟨m, hm⟩ := k3; exact DataW.trod_lt m _ _ _ hm
  obtain ⟨z3, w3, l3⟩ : ∃ bs, HasB W a3 len3 cap3 bs ∧ len3 ≤ maxLen := by
    obtain ⟨fuel, hf⟩ := h3
    rcases Go.Deep.open_bools Try.underlying32 Try.underlying4 (by kernel_rfl) hf with ⟨hcs, _⟩ | ⟨x, l, c, B, hcs, _, hl, hm, _, hcell⟩
    · simp [Value.cells] at hcs
      obtain ⟨rfl, rfl, rfl⟩ := hcs
      exact ⟨[], ⟨fun _ => ⟨rfl, rfl⟩, fun ad h => (by cases h), rfl⟩, Nat.zero_le _⟩
    · simp [Value.cells] at hcs
      obtain ⟨rfl, rfl, rfl⟩ := hcs
      refine ⟨(List.range len3).map B, has_of_cells (by simp) (fun i v hv => ?_), Nat.le_trans hl hm⟩
      have hi : i < len3 := by
        have := (List.getElem?_eq_some_iff.1 hv).1
        simpa using this
      rw [hcell i (by omega)]
      simp [hi] at hv
      rw [← hv]
  obtain ⟨a4, len4, cap4, rfl⟩ := okWide_slice Try.underlying31 (hval 4 31 v4 rfl rfl)
  have k4 := h4
  have lt4 : ∀ x ∈ p4, x.block < W.heap.size := by obtain ⟨m, hm⟩ := k4; exact DataW.trod_lt m _ _ _ hm
  obtain ⟨z4, w4, lc4, l4⟩ : ∃ zs, HasI .i64 W a4 len4 cap4 zs ∧ len4 ≤ cap4 ∧ len4 ≤ maxLen := by
    obtain ⟨fuel, hf⟩ := h4
    rcases open_ints Try.underlying31 Try.underlying3 (by kernel_rfl) hf with ⟨hcs, _⟩ | ⟨x, l, c, zs, hcs, _, hl, hm, hz, _, hcell, hwz⟩
    · simp [Value.cells] at hcs
      obtain ⟨rfl, rfl, rfl⟩ := hcs
      exact ⟨[], ⟨fun _ => ⟨rfl, rfl⟩, fun ad h => (by cases h), rfl⟩, Nat.le_refl _, Nat.zero_le _⟩
    · simp [Value.cells] at hcs
      obtain ⟨rfl, rfl, rfl⟩ := hcs
      have hz' : zs.length = cap4 := by simpa using hz
      refine ⟨zs.take len4, has_of_cells (by simp; omega) (fun i v hv => ?_), hl, Nat.le_trans hl hm⟩
      rw [List.map_take, List.getElem?_take] at hv
      split at hv
      · have hi : i < zs.length := by omega
        rw [hcell i hi]
        simp [hi] at hv ⊢
        exact hv
      · cases hv
  obtain ⟨a5, rfl, rfl, rfl, w5⟩ := open_int Try.underlying3 (hval 5 3 v5 rfl rfl) h5
  obtain ⟨a6, rfl, rfl, rfl, w6⟩ := open_int Try.underlying3 (hval 6 3 v6 rfl rfl) h6
  clear hA0 hval0
  have hw5 : -9223372036854775808 ≤ a5 ∧ a5 ≤ 9223372036854775807 := by
    have h := w5
    have h2 : (decide (IntKind.i64.min ≤ a5) && decide (a5 ≤ IntKind.i64.max)) = true := h
    rw [Bool.and_eq_true, decide_eq_true_eq, decide_eq_true_eq] at h2
    exact h2
  refine (law_walk W a0 len0 cap0 z0 w0 lc0 l0 a1 len1 cap1 z1 w1 l1 a2 len2 cap2 z2 w2 l2 a3 len3 cap3 z3 w3 l3 a4 len4 cap4 z4 w4 l4 a5 a6 hw5.1 hw5.2).mono fun e W' ⟨he, bel⟩ => ?_
  subst he
  exact ⟨_, rfl, _, _, _, [], _, [], hW', trodAll_mk1 (shut_bool Try.underlying4 _), (trodAll_cons_mk (Below.trod laidOut (by kernel_rfl) (of_decide_eq_true (by kernel_rfl)) k0 bel lt0) (trodAll_cons_mk (Below.trod laidOut (by kernel_rfl) (of_decide_eq_true (by kernel_rfl)) k1 bel lt1) (trodAll_cons_mk (Below.trod laidOut (by kernel_rfl) (of_decide_eq_true (by kernel_rfl)) k2 bel lt2) (trodAll_cons_mk (Below.trod laidOut (by kernel_rfl) (of_decide_eq_true (by kernel_rfl)) k3 bel lt3) (trodAll_cons_mk (Below.trod laidOut (by kernel_rfl) (of_decide_eq_true (by kernel_rfl)) k4 bel lt4) (trodAll_cons_mk (shut_int Try.underlying3 w5) (trodAll_cons_mk (shut_int Try.underlying3 w6) trodAll_mk0))))))), rfl, bel.frame _, fun h => by cases h⟩

theorem over : Rows.fnJoinWritesOnlyRoomAfterOwnedElementsRow.holds Try.pinned (OpenSpec.ofChange Rows.fnJoinWritesOnlyRoomAfterOwnedElementsSpec) :=
  OpenClaim.holds_of_wide 9 Try.f9 rfl rfl rfl rfl rfl rfl rfl ⟨rfl, rfl, rfl, rfl, rfl⟩ rfl rfl rfl rfl rfl (by kernel_rfl) Try.func9 Facts.closed9
    (of_decide_eq_true (by kernel_rfl)) (by unfold Func.isWrapper; first | (rw [if_pos (by decide +kernel)]; kernel_rfl) | (rw [if_neg (by decide +kernel)]; exact ⟨rfl, rfl⟩))
    (fun os started H enc _ => lifted os started H enc)
end Go.Proofs.Qxb6600280a.fnJoinWritesOnlyRoomAfterOwnedElements

namespace Go.Proofs.Qxb6600280a
/-- THE STATEMENT -/
theorem fnJoinWritesOnlyRoomAfterOwnedElements_proved : Rows.FnJoinWritesOnlyRoomAfterOwnedElementsSaid := fnJoinWritesOnlyRoomAfterOwnedElements.over
end Go.Proofs.Qxb6600280a
