/-
  WALK for seat b6600314a: slices.Reverse (23).
-/
import Derived.Test.Qxb6600314aBMem
import Derived.Deep.LoopGhost
namespace Go.Proofs.Qxb6600314a
open Go.RowKit
set_option linter.unusedVariables false

/-- The first i and the last i have changed places. -/
structure Turned (L M : List Nat) (i : Nat) : Prop where
  len : M.length = L.length
  at' : ∀ k, k < L.length → M[k]? = if k < i ∨ L.length ≤ k + i then L[L.length - 1 - k]? else L[k]?
theorem turned_start (L : List Nat) : Turned L L 0 := ⟨rfl, fun k hk => by rw [if_neg (by omega)]⟩
theorem Turned.step {L M : List Nat} {i j x y : Nat} (h : Turned L M i) (hij : i + j + 1 = L.length) (hlt : i < j) (hx : M[i]? = some x) (hy : M[j]? = some y) : Turned L ((M.set i y).set j x) (i + 1) := by
  have h1 := h.len
  refine ⟨by simp [h1], fun k hk => ?_⟩
  have ei := h.at' i (by omega)
  have ej := h.at' j (by omega)
  rw [if_neg (by omega), hx] at ei
  rw [if_neg (by omega), hy] at ej
  by_cases e1 : k = j
  · subst e1
    rw [List.getElem?_set_self (by simp; omega), if_pos (by omega), show L.length - 1 - k = i from by omega]
    exact ei
  · rw [List.getElem?_set_ne (Ne.symm e1)]
    by_cases e2 : k = i
    · subst e2
      rw [List.getElem?_set_self (by omega), if_pos (by omega), show L.length - 1 - k = j from by omega]
      exact ej
    · rw [List.getElem?_set_ne (Ne.symm e2), h.at' k hk]
      by_cases e3 : k < i ∨ L.length ≤ k + i
      · rw [if_pos e3, if_pos (by omega)]
      · rw [if_neg e3, if_neg (by omega)]
theorem Turned.done {L M : List Nat} {i j : Nat} (h : Turned L M i) (hij : i + j + 1 = L.length) (hge : ¬ i < j) : M = L.reverse := by
  apply List.ext_getElem?
  intro k
  by_cases hk : k < L.length
  · rw [h.at' k hk, List.getElem?_reverse hk]
    by_cases e : k < i ∨ L.length ≤ k + i
    · rw [if_pos e]
    · rw [if_neg e, show L.length - 1 - k = k from by omega]
  · rw [List.getElem?_eq_none (by rw [h.len]; omega), List.getElem?_eq_none (by simp; omega)]
theorem ints_get {L : List Nat} {j v : Nat} (h : L[j]? = some v) : (ints L)[j]? = some (.int .i64 (v : Int)) := by simp [ints, h]
theorem ints_set (L : List Nat) (j v : Nat) : (ints L).set j (.int .i64 (v : Int)) = ints (L.set j v) := by simp [ints, List.map_set]

structure RR (w wr : World) (base g cap len : Nat) (M : List Nat) : Prop where
  own : wr.ownsRow base 3 1 (.slice (some ⟨g, 0, none⟩) len cap) len (ints M)
  gr : w.grownBy wr (some g)
theorem RR.drewN {w wr : World} {base g cap len : Nat} {M : List Nat} (h : RR w wr base g cap len M) (m : Nat) : RR w (wr.drewN m) base g cap len M :=
  ⟨h.own, ⟨h.gr.os, h.gr.tape, h.gr.output, h.gr.size, h.gr.block⟩⟩
theorem RR.set {w wr : World} {base g cap len : Nat} {M : List Nat} (h : RR w wr base g cap len M) (j v : Nat) : RR w (wr.setCell ⟨g, j, none⟩ (.int .i64 (v : Int))) base g cap len (M.set j v) := by
  obtain ⟨h1, h2⟩ := World.ownsRow.stored h.own j (.int .i64 (v : Int))
  rw [ints_set] at h1
  exact ⟨h1, h.gr.trans h2⟩

set_option maxRecDepth 100000 in
set_option maxHeartbeats 1000000 in
theorem rev23 (w : World) (base g cap : Nat) (L : List Nat) (h : w.ownsRow base 3 1 (.slice (some ⟨g, 0, none⟩) L.length cap) L.length (ints L)) (h0 : 0 < L.length) (hn : L.length ≤ 65537) :
    Calls Try.prog 23 #[.slice (some ⟨g, 0, none⟩) L.length cap] w fun r w' => r = .returned (.tuple #[]) ∧ RR w w' base g cap L.length L.reverse := by
  have HR : Hid (RR w w base g cap L.length L) := ⟨h, World.grownBy.refl _ _⟩
  obtain ⟨len, hlen⟩ : ∃ len, len = L.length := ⟨_, rfl⟩
  rw [← hlen] at HR h0 hn ⊢
  have HL : Hid _ := hlen
  clear h hlen
  go_enter Try.func23, Try.ntmps23
  go_wp2_with fail
  go_loopg [2, 3] len (fun gk s2 s3 wr => ∃ (i j : Nat) (M : List Nat), s2 = .int .i64 (i : Int) ∧ s3 = .int .i64 (j : Int) ∧ i + j + 1 = len ∧ j ≤ gk ∧ Hid (Turned L M i ∧ RR w wr base g cap len M))
  case atStart => exact ⟨0, len - 1, L, rfl, by rw [show ((len - 1 : Nat) : Int) = (len : Int) - 1 from by omega], by omega, by omega, turned_start L, HR.out⟩
  case round =>
    obtain ⟨i, j, M, rfl, rfl, hij, hjk, HT⟩ := hrel
    by_cases hlt : i < j
    · have hm := HT.out.1.len
      obtain ⟨x, hx⟩ : ∃ x, M[i]? = some x := ⟨_, List.getElem?_eq_getElem (by rw [hm, ← HL.out]; omega)⟩
      obtain ⟨y, hy⟩ : ∃ y, M[j]? = some y := ⟨_, List.getElem?_eq_getElem (by rw [hm, ← HL.out]; omega)⟩
      have ci := HT.out.2.own.cellAt i (by omega)
      have cj := HT.out.2.own.cellAt j (by omega)
      have cf := HT.out.2.own.frozenAt
      rw [ints_get hx] at ci
      rw [ints_get hy] at cj
      have HS : Hid _ := HT.out.1.step (hij.trans HL.out) hlt hx hy
      have HF : Hid (∀ m, RR w (((wr.setCell ⟨g, i, none⟩ (.int .i64 (y : Int))).setCell ⟨g, j, none⟩ (.int .i64 (x : Int))).drewN m) base g cap len ((M.set i y).set j x)) := fun m => ((HT.out.2.set i y).set j x).drewN m
      have hi1 : (i : Int) < (j : Int) := by omega
      clear hm hx hy
      go_upto_region 3 with fail
      go_region
      go_wp2_with fail
      go_roundg (j - 1)
      case measure => omega
      case rel => exact ⟨i + 1, j - 1, _, by rw [show ((i + 1 : Nat) : Int) = (i : Int) + 1 from by omega], by rw [show ((j - 1 : Nat) : Int) = (j : Int) - 1 from by omega], by omega, Nat.le_refl _, HS.out, HF.out 1⟩
    · have hi1 : ¬ (i : Int) < (j : Int) := by omega
      go_wp2_with fail
      go_end0
      have e := HT.out.1.done (hij.trans HL.out) hlt
      rw [← e]
      exact ⟨rfl, HT.out.2⟩
end Go.Proofs.Qxb6600314a
