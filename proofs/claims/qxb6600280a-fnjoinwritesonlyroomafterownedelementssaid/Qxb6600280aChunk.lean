/-
  WALKS for seat b6600280a: (*chunk).size (42), roomFor (43), elements (40).
-/
import Derived.Test.Qxb6600280aKit
namespace Go.Proofs.Qxb6600280a
open Go.RowKit
set_option linter.unusedVariables false

theorem size42 (w : World) (cb o s e : Nat) (c1 : w.cell? ⟨cb, o + 1, none⟩ = some (.int .i64 s)) (c2 : w.cell? ⟨cb, o + 2, none⟩ = some (.int .i64 e)) (hs : s ≤ e) (he : e ≤ 1073741824) :
    Calls Try.prog 42 #[.pointer (some ⟨cb, o, none⟩)] w fun r w' => r = .returned (.int .i64 (e - s : Nat)) ∧ ∃ n, w' = w.drewN n := by
  have hsub : (e : Int) - (s : Int) = ((e - s : Nat) : Int) := by omega
  go_enter Try.func42, Try.ntmps42
  go_wp2
  go_quiet (fail)
  go_wp2
  go_ret
  exact ⟨by simp, _, rfl⟩

theorem room43 (w : World) (cb o L e : Nat) (a : Option Addr) (cap : Nat) (own : Bool) (z : Nat) (c0 : w.cell? ⟨cb, o, none⟩ = some (.slice a L cap)) (c2 : w.cell? ⟨cb, o + 2, none⟩ = some (.int .i64 e)) (c4 : w.cell? ⟨cb, o + 4, none⟩ = some (.bool own))
    (he : e ≤ L) (hL : L ≤ 1073741824) (hz : z ≤ 1073741824) :
    Calls Try.prog 43 #[.pointer (some ⟨cb, o, none⟩), .int .i64 z, .bool false] w fun r w' => r = .returned (.bool (own && decide (z ≤ L - e))) ∧ ∃ n, w' = w.drewN n := by
  cases own
  · go_enter Try.func43, Try.ntmps43
    go_wp2
    go_ret
    exact ⟨rfl, 0, rfl⟩
  · go_enter Try.func43, Try.ntmps43
    go_wp2
    go_quiet (fail)
    go_wp2
    go_ret
    refine ⟨?_, _, rfl⟩
    have : decide ((z : Int) ≤ (L : Int) - (e : Int)) = decide (z ≤ L - e) := by
      rw [decide_eq_decide]; omega
    simp [this]

theorem elements40 (w : World) (cb o g L s e : Nat) (c0 : w.cell? ⟨cb, o, none⟩ = some (.slice (some ⟨g, 0, none⟩) L L)) (c1 : w.cell? ⟨cb, o + 1, none⟩ = some (.int .i64 s)) (c2 : w.cell? ⟨cb, o + 2, none⟩ = some (.int .i64 e))
    (hs : s < e) (he : e ≤ L) (hL : L ≤ 1073741824) :
    Calls Try.prog 40 #[.pointer (some ⟨cb, o, none⟩)] w fun r w' => r = .returned (.slice (some ⟨g, s, none⟩) (e - s) (e - s)) ∧ ∃ n, w' = w.drewN n := by
  have h1 : (0 : Int) ≤ (s : Int) := by omega
  have h2 : (s : Int) ≤ (e : Int) := by omega
  have h3 : (e : Int) ≤ (L : Int) := by omega
  have h4 : ¬ e = s := by omega
  go_enter Try.func40, Try.ntmps40
  go_wp2
  go_quiet (fail)
  go_wp2
  go_ret
  exact ⟨rfl, _, rfl⟩
end Go.Proofs.Qxb6600280a
