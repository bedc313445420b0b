/-
  THE GROUP's FOUR MAPS for seat b6600058a: sets of strings, each key with one value; ZZMarks (53), ZZSetSizes (54), ZZJoinedIn (55).
-/
import Derived.Test.Qxb6600058aGroup
import Derived.Maps.OwnSet
import Derived.Maps.Views
namespace Go.Proofs.Qxb6600058a
open Go.RowKit
open Go.Maps (Keyed setOf IsMap)

theorem law : Keyed Try.prog 9 := Go.Maps.string_keyed Try.underlying9
theorem zero22 (w : World) : (zeroValue 22).run Try.prog w = .ok (.int .u64 0) w := by kernel_rfl
theorem zero4 (w : World) : (zeroValue 4).run Try.prog w = .ok (.bool false) w := by kernel_rfl

/-- What a key reads as. -/
def kl (s : ByteArray) : Lit := .string s.data.toList
theorem kl_key {s : ByteArray} (h : s.size ≤ maxLen) : keyOf Try.prog 9 (.string s) = some (kl s) := WideMaps.keyOf_string_mk Try.underlying9 h
theorem kl_is (s : ByteArray) : WideAt.IsKeyLit (kl s) := by simp [kl, WideAt.IsKeyLit]
theorem kl_inj {s t : ByteArray} (h : kl s = kl t) : s = t := by
  unfold kl at h
  injection h with h
  exact ByteArray.ext (Array.toList_inj.mp h)

/-- The set of the keys ss, each with the value u. -/
def D (u : DataW Unit) (ss : List ByteArray) : DataW Unit := setOf u (ss.map kl)
theorem D_nil (u : DataW Unit) : D u [] = .map [] := rfl
theorem D_snoc (u : DataW Unit) (ss : List ByteArray) (s : ByteArray) : D u (ss ++ [s]) = (D u ss).put (kl s) u := by
  unfold D
  rw [List.map_append]
  exact Go.Maps.setOf_snoc _ _ _
theorem D_take (u : DataW Unit) (ss : List ByteArray) (k : Nat) (h : k < ss.length) : D u (ss.take (k + 1)) = (D u (ss.take k)).put (kl (ss.getD k ByteArray.empty)) u := by
  rw [← D_snoc, List.take_succ_eq_append_getElem h, List.getD_eq_getElem?_getD, List.getElem?_eq_getElem h]
  rfl
theorem D_isMap (u : DataW Unit) (ss : List ByteArray) : IsMap (D u ss) := by
  unfold D
  exact (Go.Maps.tidy_setOf u _ (fun x hx => by obtain ⟨s, _, rfl⟩ := List.mem_map.1 hx; exact kl_is s)).isMap
theorem D_has (u : DataW Unit) (ss : List ByteArray) (s : ByteArray) (h : s ∈ ss) : Go.Maps.has (D u ss) (kl s) = true := by
  unfold D
  rw [Go.Maps.has_setOf u (kl s) _ (fun x hx => by obtain ⟨s, _, rfl⟩ := List.mem_map.1 hx; exact kl_is s)]
  refine List.any_eq_true.2 ⟨kl s, List.mem_map.2 ⟨s, h, rfl⟩, WideAt.sameKey_self (kl_is s)⟩
theorem D_at (u z : DataW Unit) (s : ByteArray) (n : Nat) : ∀ ss : List ByteArray, ss.length ≤ n → s ∈ ss → (D u ss).atKey (kl s) z = u := by
  induction n with
  | zero => intro ss hl h; obtain rfl : ss = [] := List.eq_nil_of_length_eq_zero (by omega); cases h
  | succ n ih =>
    intro ss hl h
    rcases List.eq_nil_or_concat ss with rfl | ⟨ts, t, rfl⟩
    · cases h
    · rw [List.concat_eq_append] at h hl ⊢
      rw [D_snoc]
      by_cases e : s = t
      · subst e
        exact Go.Maps.atKey_put_same (D_isMap u ts) (kl_is s) u z
      · rw [Go.Maps.atKey_put_other (fun e' => e (kl_inj e'))]
        refine ih ts (by simp at hl; omega) ?_
        rcases List.mem_append.1 h with h | h
        · exact h
        · exact absurd (by simpa using h) e

theorem plainElem_bool_inv {P : Program} {e : TypeId} (he : P.underlying e = some .bool) {v : Value} {z : DataW Unit × List MemPlace} (h : plainElem P e v = some z) : ∃ x, v = .bool x ∧ z = (.lit (.bool x), []) := by
  unfold plainElem at h
  rw [he] at h
  cases v <;> simp at h
  exact ⟨_, rfl, h.symm⟩

/-- A set 'map[string]bool' asked for one of its keys: one answer in all worlds in which it is the same map. -/
theorem look_bool {w : World} {b n : Nat} {ss : List ByteArray} (h : w.ownsMap Try.prog 9 (plainElem Try.prog 4) b n (D (.lit (.bool true)) ss)) {s : ByteArray} (hs : s.size ≤ maxLen) :
    ∃ x : Bool, (∀ k, (Instr.lookup 65 (.map (some b)) (.string s) false).run Try.prog (w.drewN k) = .ok (.bool x) (w.drewN k)) ∧ (s ∈ ss → x = true) := by
  have key : ∀ w' : World, w'.ownsMap Try.prog 9 (plainElem Try.prog 4) b n (D (.lit (.bool true)) ss) →
      ∃ x : Bool, (Instr.lookup 65 (.map (some b)) (.string s) false).run Try.prog w' = .ok (.bool x) w' ∧ (D (.lit (.bool true)) ss).atKey (kl s) (.lit (.bool false)) = .lit (.bool x) := by
    intro w' h'
    obtain ⟨v, ps, hrun, hv⟩ := h'.lookup law Try.underlying65 (zero4 w') (plainElem_bool Try.underlying4 false) (kl_key hs)
    obtain ⟨x, rfl, hx⟩ := plainElem_bool_inv Try.underlying4 hv
    exact ⟨x, hrun, congrArg Prod.fst hx⟩
  obtain ⟨x, _, hx⟩ := key w h
  refine ⟨x, fun k => ?_, fun hm => ?_⟩
  · obtain ⟨x', hrun, hx'⟩ := key (w.drewN k) h
    rw [hx] at hx'
    obtain rfl : x = x' := by simpa using hx'
    exact hrun
  · rw [D_at _ _ s _ ss (Nat.le_refl _) hm] at hx
    simpa using hx.symm
end Go.Proofs.Qxb6600058a
