/-
  THE ROW's STEP for 'Rows.FnRemoveRefusesSelfAndNonMembersSaid', after the guide's own frame for a law over slices (slices of strings by 'open_strings', of bools by 'open_bools').
-/
import Derived.Test.Qxb6600058aRows
import Derived.Test.Qxb6600058aFacts
import Derived.Test.Qxb6600058aLaw
import Derived.WalkKit
import Derived.ProofKit
import Derived.OpenShut
import Derived.ShutString
import Derived.ChangeOld
import Derived.Below
import Derived.SliceStrings
import Derived.Deep.Grids
namespace Go.Proofs.Qxb6600058a.fnRemoveRefusesSelfAndNonMembers
open Go.ChangeShapes Go.WideShapes Go.ChangeAt Go.RowKit
open Go.ChangeMaps (open_string shut_string)
set_option linter.unusedVariables false

theorem own : ownKnob Try.prog.godebug = none := by kernel_rfl
theorem laidOut : laidOutB Try.prog = true := by kernel_rfl

theorem has_of_cells {w : World} {x : Addr} {len cap : Nat} {vs : List Value} (hl : vs.length = len) (hc : ∀ i v, vs[i]? = some v → w.cell? (x.add i) = some v) : Has w (some x) len cap vs :=
  ⟨fun h => (by cases h), fun ad had j u hu => by obtain rfl := Option.some.inj had; exact hc j u hu, hl⟩

set_option maxRecDepth 100000 in
theorem lifted (os : Os) (started : os.Started) (H : Type) (enc : TypeId × Value → H) :
    ReturnsInHanded {} Try.checked os 6 .any (Rows.fnRemoveRefusesSelfAndNonMembersSpec.pre6 enc Try.prog Try.f6 Rows.fnRemoveRefusesSelfAndNonMembersRow.domain false) (Rows.fnRemoveRefusesSelfAndNonMembersSpec.post enc Try.prog Try.f6 false true false false) := by
  refine returnsInHanded_of_change (C := Try.checked) own started (by kernel_rfl) Try.func6
    (ChangeSpec.witness6 (enc := enc) (C := Try.checked) false ⟨#[], #[.string ByteArray.empty, .slice none 0 0, .slice none 0 0, .slice none 0 0, .slice none 0 0, .slice none 0 0, .slice none 0 0, .slice none 0 0, .string ByteArray.empty, .bool false], []⟩ 8 (by kernel_rfl) (by kernel_rfl) (by kernel_rfl) (by kernel_rfl)) ?_
  intro W base args ds gs before hval0 hW hcnd _
  have hval : ∀ (j : Nat) t v, Try.f6.params[j]? = some t → args[j]? = some v → Value.okWide Try.prog W .any base t v := hval0
  have hW' := hW
  obtain ⟨p, q, hA0, hV, rfl, hfz, hnd⟩ := hW
  have hA : DataW.TrodAll enc Try.prog W 0 (fun _ => true) true Try.f6.params.toList args.toList ds p := hA0
  rw [Try.params6] at hA hval
  obtain ⟨v0, vs0, d0, ds0, p0, q0, hargs, rfl, rfl, h0, r0⟩ := trodAll_cons hA
  obtain ⟨v1, vs1, d1, ds1, p1, q1, rfl, rfl, rfl, h1, r1⟩ := trodAll_cons r0
  obtain ⟨v2, vs2, d2, ds2, p2, q2, rfl, rfl, rfl, h2, r2⟩ := trodAll_cons r1
  obtain ⟨v3, vs3, d3, ds3, p3, q3, rfl, rfl, rfl, h3, r3⟩ := trodAll_cons r2
  obtain ⟨v4, vs4, d4, ds4, p4, q4, rfl, rfl, rfl, h4, r4⟩ := trodAll_cons r3
  obtain ⟨v5, vs5, d5, ds5, p5, q5, rfl, rfl, rfl, h5, r5⟩ := trodAll_cons r4
  obtain ⟨v6, vs6, d6, ds6, p6, q6, rfl, rfl, rfl, h6, r6⟩ := trodAll_cons r5
  obtain ⟨v7, vs7, d7, ds7, p7, q7, rfl, rfl, rfl, h7, r7⟩ := trodAll_cons r6
  obtain ⟨v8, vs8, d8, ds8, p8, q8, rfl, rfl, rfl, h8, r8⟩ := trodAll_cons r7
  obtain ⟨v9, vs9, d9, ds9, p9, q9, rfl, rfl, rfl, h9, r9⟩ := trodAll_cons r8
  obtain ⟨rfl, rfl, rfl⟩ := trodAll_nil r9
  obtain rfl : args = #[v0, v1, v2, v3, v4, v5, v6, v7, v8, v9] := by cases args; simp_all
  obtain ⟨rfl, rfl⟩ := trodVars_none hV
  obtain ⟨a0, rfl, rfl, rfl, w0⟩ := open_string Try.underlying9 (hval 0 9 v0 rfl rfl) h0
  obtain ⟨a1, len1, cap1, rfl⟩ := okWide_slice Try.underlying35 (hval 1 35 v1 rfl rfl)
  have k1 := h1
  have lt1 : ∀ x ∈ p1, x.block < W.heap.size := by obtain ⟨m, hm⟩ := k1; exact DataW.trod_lt m _ _ _ hm
  obtain ⟨z1, w1, l1⟩ : ∃ ss, HasS W a1 len1 cap1 ss ∧ len1 ≤ maxLen := by
    obtain ⟨fuel, hf⟩ := h1
    rcases open_strings Try.underlying35 Try.underlying9 (by kernel_rfl) hf with ⟨hcs, _⟩ | ⟨x, l, c, ss, hcs, _, hl, hm, hz, _, hcell, hws⟩
    · simp [Value.cells] at hcs
      obtain ⟨rfl, rfl, rfl⟩ := hcs
      exact ⟨[], ⟨⟨fun _ => ⟨rfl, rfl⟩, fun ad h => (by cases h), rfl⟩, fun s hs => (by cases hs)⟩, Nat.zero_le _⟩
    · simp [Value.cells] at hcs
      obtain ⟨rfl, rfl, rfl⟩ := hcs
      have hz' : ss.length = cap1 := by simpa using hz
      refine ⟨ss.take len1, ⟨has_of_cells (by simp; omega) (fun i v hv => ?_), fun s hs => hws s (List.mem_of_mem_take hs)⟩, Nat.le_trans hl hm⟩
      rw [List.map_take, List.getElem?_take] at hv
      split at hv
      · have hi : i < ss.length := by omega
        rw [hcell i hi]
        simp [hi] at hv ⊢
        exact hv
      · cases hv
  obtain ⟨a2, len2, cap2, rfl⟩ := okWide_slice Try.underlying35 (hval 2 35 v2 rfl rfl)
  have k2 := h2
  have lt2 : ∀ x ∈ p2, x.block < W.heap.size := by obtain ⟨m, hm⟩ := k2; exact DataW.trod_lt m _ _ _ hm
  obtain ⟨z2, w2, l2⟩ : ∃ ss, HasS W a2 len2 cap2 ss ∧ len2 ≤ maxLen := by
    obtain ⟨fuel, hf⟩ := h2
    rcases open_strings Try.underlying35 Try.underlying9 (by kernel_rfl) hf with ⟨hcs, _⟩ | ⟨x, l, c, ss, hcs, _, hl, hm, hz, _, hcell, hws⟩
    · simp [Value.cells] at hcs
      obtain ⟨rfl, rfl, rfl⟩ := hcs
      exact ⟨[], ⟨⟨fun _ => ⟨rfl, rfl⟩, fun ad h => (by cases h), rfl⟩, fun s hs => (by cases hs)⟩, Nat.zero_le _⟩
    · simp [Value.cells] at hcs
      obtain ⟨rfl, rfl, rfl⟩ := hcs
      have hz' : ss.length = cap2 := by simpa using hz
      refine ⟨ss.take len2, ⟨has_of_cells (by simp; omega) (fun i v hv => ?_), fun s hs => hws s (List.mem_of_mem_take hs)⟩, Nat.le_trans hl hm⟩
      rw [List.map_take, List.getElem?_take] at hv
      split at hv
      · have hi : i < ss.length := by omega
        rw [hcell i hi]
        simp [hi] at hv ⊢
        exact hv
      · cases hv
  obtain ⟨a3, len3, cap3, rfl⟩ := okWide_slice Try.underlying36 (hval 3 36 v3 rfl rfl)
  have k3 := h3
  have lt3 : ∀ x ∈ p3, x.block < W.heap.size := by obtain ⟨m, hm⟩ := k3; exact DataW.trod_lt m _ _ _ hm
  obtain ⟨z3, w3, l3⟩ : ∃ bs, HasB W a3 len3 cap3 bs ∧ len3 ≤ maxLen := by
    obtain ⟨fuel, hf⟩ := h3
    rcases Go.Deep.open_bools Try.underlying36 Try.underlying4 (by kernel_rfl) hf with ⟨hcs, _⟩ | ⟨x, l, c, B, hcs, _, hl, hm, _, hcell⟩
    · simp [Value.cells] at hcs
      obtain ⟨rfl, rfl, rfl⟩ := hcs
      exact ⟨[], ⟨fun _ => ⟨rfl, rfl⟩, fun ad h => (by cases h), rfl⟩, Nat.zero_le _⟩
    · simp [Value.cells] at hcs
      obtain ⟨rfl, rfl, rfl⟩ := hcs
      refine ⟨(List.range len3).map B, has_of_cells (by simp) (fun i v hv => ?_), Nat.le_trans hl hm⟩
      have hi : i < len3 := by
        have := (List.getElem?_eq_some_iff.1 hv).1
        simpa using this
      rw [hcell i (by omega)]
      simp [hi] at hv
      rw [← hv]
  obtain ⟨a4, len4, cap4, rfl⟩ := okWide_slice Try.underlying35 (hval 4 35 v4 rfl rfl)
  have k4 := h4
  have lt4 : ∀ x ∈ p4, x.block < W.heap.size := by obtain ⟨m, hm⟩ := k4; exact DataW.trod_lt m _ _ _ hm
  obtain ⟨z4, w4, l4⟩ : ∃ ss, HasS W a4 len4 cap4 ss ∧ len4 ≤ maxLen := by
    obtain ⟨fuel, hf⟩ := h4
    rcases open_strings Try.underlying35 Try.underlying9 (by kernel_rfl) hf with ⟨hcs, _⟩ | ⟨x, l, c, ss, hcs, _, hl, hm, hz, _, hcell, hws⟩
    · simp [Value.cells] at hcs
      obtain ⟨rfl, rfl, rfl⟩ := hcs
      exact ⟨[], ⟨⟨fun _ => ⟨rfl, rfl⟩, fun ad h => (by cases h), rfl⟩, fun s hs => (by cases hs)⟩, Nat.zero_le _⟩
    · simp [Value.cells] at hcs
      obtain ⟨rfl, rfl, rfl⟩ := hcs
      have hz' : ss.length = cap4 := by simpa using hz
      refine ⟨ss.take len4, ⟨has_of_cells (by simp; omega) (fun i v hv => ?_), fun s hs => hws s (List.mem_of_mem_take hs)⟩, Nat.le_trans hl hm⟩
      rw [List.map_take, List.getElem?_take] at hv
      split at hv
      · have hi : i < ss.length := by omega
        rw [hcell i hi]
        simp [hi] at hv ⊢
        exact hv
      · cases hv
  obtain ⟨a5, len5, cap5, rfl⟩ := okWide_slice Try.underlying35 (hval 5 35 v5 rfl rfl)
  have k5 := h5
  have lt5 : ∀ x ∈ p5, x.block < W.heap.size := by obtain ⟨m, hm⟩ := k5; exact DataW.trod_lt m _ _ _ hm
  obtain ⟨z5, w5, l5⟩ : ∃ ss, HasS W a5 len5 cap5 ss ∧ len5 ≤ maxLen := by
    obtain ⟨fuel, hf⟩ := h5
    rcases open_strings Try.underlying35 Try.underlying9 (by kernel_rfl) hf with ⟨hcs, _⟩ | ⟨x, l, c, ss, hcs, _, hl, hm, hz, _, hcell, hws⟩
    · simp [Value.cells] at hcs
      obtain ⟨rfl, rfl, rfl⟩ := hcs
      exact ⟨[], ⟨⟨fun _ => ⟨rfl, rfl⟩, fun ad h => (by cases h), rfl⟩, fun s hs => (by cases hs)⟩, Nat.zero_le _⟩
    · simp [Value.cells] at hcs
      obtain ⟨rfl, rfl, rfl⟩ := hcs
      have hz' : ss.length = cap5 := by simpa using hz
      refine ⟨ss.take len5, ⟨has_of_cells (by simp; omega) (fun i v hv => ?_), fun s hs => hws s (List.mem_of_mem_take hs)⟩, Nat.le_trans hl hm⟩
      rw [List.map_take, List.getElem?_take] at hv
      split at hv
      · have hi : i < ss.length := by omega
        rw [hcell i hi]
        simp [hi] at hv ⊢
        exact hv
      · cases hv
  obtain ⟨a6, len6, cap6, rfl⟩ := okWide_slice Try.underlying35 (hval 6 35 v6 rfl rfl)
  have k6 := h6
  have lt6 : ∀ x ∈ p6, x.block < W.heap.size := by obtain ⟨m, hm⟩ := k6; exact DataW.trod_lt m _ _ _ hm
  obtain ⟨z6, w6, l6⟩ : ∃ ss, HasS W a6 len6 cap6 ss ∧ len6 ≤ maxLen := by
    obtain ⟨fuel, hf⟩ := h6
    rcases open_strings Try.underlying35 Try.underlying9 (by kernel_rfl) hf with ⟨hcs, _⟩ | ⟨x, l, c, ss, hcs, _, hl, hm, hz, _, hcell, hws⟩
    · simp [Value.cells] at hcs
      obtain ⟨rfl, rfl, rfl⟩ := hcs
      exact ⟨[], ⟨⟨fun _ => ⟨rfl, rfl⟩, fun ad h => (by cases h), rfl⟩, fun s hs => (by cases hs)⟩, Nat.zero_le _⟩
    · simp [Value.cells] at hcs
      obtain ⟨rfl, rfl, rfl⟩ := hcs
      have hz' : ss.length = cap6 := by simpa using hz
      refine ⟨ss.take len6, ⟨has_of_cells (by simp; omega) (fun i v hv => ?_), fun s hs => hws s (List.mem_of_mem_take hs)⟩, Nat.le_trans hl hm⟩
      rw [List.map_take, List.getElem?_take] at hv
      split at hv
      · have hi : i < ss.length := by omega
        rw [hcell i hi]
        simp [hi] at hv ⊢
        exact hv
      · cases hv
  obtain ⟨a7, len7, cap7, rfl⟩ := okWide_slice Try.underlying35 (hval 7 35 v7 rfl rfl)
  have k7 := h7
  have lt7 : ∀ x ∈ p7, x.block < W.heap.size := by obtain ⟨m, hm⟩ := k7; exact DataW.trod_lt m _ _ _ hm
  obtain ⟨z7, w7, l7⟩ : ∃ ss, HasS W a7 len7 cap7 ss ∧ len7 ≤ maxLen := by
    obtain ⟨fuel, hf⟩ := h7
    rcases open_strings Try.underlying35 Try.underlying9 (by kernel_rfl) hf with ⟨hcs, _⟩ | ⟨x, l, c, ss, hcs, _, hl, hm, hz, _, hcell, hws⟩
    · simp [Value.cells] at hcs
      obtain ⟨rfl, rfl, rfl⟩ := hcs
      exact ⟨[], ⟨⟨fun _ => ⟨rfl, rfl⟩, fun ad h => (by cases h), rfl⟩, fun s hs => (by cases hs)⟩, Nat.zero_le _⟩
    · simp [Value.cells] at hcs
      obtain ⟨rfl, rfl, rfl⟩ := hcs
      have hz' : ss.length = cap7 := by simpa using hz
      refine ⟨ss.take len7, ⟨has_of_cells (by simp; omega) (fun i v hv => ?_), fun s hs => hws s (List.mem_of_mem_take hs)⟩, Nat.le_trans hl hm⟩
      rw [List.map_take, List.getElem?_take] at hv
      split at hv
      · have hi : i < ss.length := by omega
        rw [hcell i hi]
        simp [hi] at hv ⊢
        exact hv
      · cases hv
  obtain ⟨a8, rfl, rfl, rfl, w8⟩ := open_string Try.underlying9 (hval 8 9 v8 rfl rfl) h8
  obtain ⟨a9, rfl, rfl, rfl⟩ := open_bool Try.underlying4 (hval 9 4 v9 rfl rfl) h9
  clear hA0 hval0
  refine (law_walk W a0 a8 a9 w0 w8 a1 len1 cap1 z1 w1 l1 a2 len2 cap2 z2 w2 l2 a3 len3 cap3 z3 w3 l3 a4 len4 cap4 z4 w4 l4 a5 len5 cap5 z5 w5 l5 a6 len6 cap6 z6 w6 l6 a7 len7 cap7 z7 w7 l7).mono fun e W' ⟨he, bel⟩ => ?_
  subst he
  exact ⟨_, rfl, _, _, _, [], _, [], hW', trodAll_mk1 (shut_bool Try.underlying4 _), (trodAll_cons_mk (shut_string Try.underlying9 w0) (trodAll_cons_mk (Below.trod laidOut (by kernel_rfl) (of_decide_eq_true (by kernel_rfl)) k1 bel lt1) (trodAll_cons_mk (Below.trod laidOut (by kernel_rfl) (of_decide_eq_true (by kernel_rfl)) k2 bel lt2) (trodAll_cons_mk (Below.trod laidOut (by kernel_rfl) (of_decide_eq_true (by kernel_rfl)) k3 bel lt3) (trodAll_cons_mk (Below.trod laidOut (by kernel_rfl) (of_decide_eq_true (by kernel_rfl)) k4 bel lt4) (trodAll_cons_mk (Below.trod laidOut (by kernel_rfl) (of_decide_eq_true (by kernel_rfl)) k5 bel lt5) (trodAll_cons_mk (Below.trod laidOut (by kernel_rfl) (of_decide_eq_true (by kernel_rfl)) k6 bel lt6) (trodAll_cons_mk (Below.trod laidOut (by kernel_rfl) (of_decide_eq_true (by kernel_rfl)) k7 bel lt7) (trodAll_cons_mk (shut_string Try.underlying9 w8) (trodAll_cons_mk (shut_bool Try.underlying4 _) trodAll_mk0)))))))))), rfl, bel.frame _, fun h => by cases h⟩

theorem over : Rows.fnRemoveRefusesSelfAndNonMembersRow.holds Try.pinned (OpenSpec.ofChange Rows.fnRemoveRefusesSelfAndNonMembersSpec) :=
  OpenClaim.holds_of_wide 6 Try.f6 rfl rfl rfl rfl rfl rfl rfl ⟨rfl, rfl, rfl, rfl, rfl⟩ rfl rfl rfl rfl rfl (by kernel_rfl) Try.func6 Facts.closed6
    (of_decide_eq_true (by kernel_rfl)) (by unfold Func.isWrapper; first | (rw [if_pos (by decide +kernel)]; kernel_rfl) | (rw [if_neg (by decide +kernel)]; exact ⟨rfl, rfl⟩))
    (fun os started H enc _ => lifted os started H enc)
end Go.Proofs.Qxb6600058a.fnRemoveRefusesSelfAndNonMembers

namespace Go.Proofs.Qxb6600058a
/-- THE STATEMENT -/
theorem fnRemoveRefusesSelfAndNonMembers_proved : Rows.FnRemoveRefusesSelfAndNonMembersSaid := fnRemoveRefusesSelfAndNonMembers.over
end Go.Proofs.Qxb6600058a
