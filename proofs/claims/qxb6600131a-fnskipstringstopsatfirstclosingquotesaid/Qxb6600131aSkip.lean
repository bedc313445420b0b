/-
  WALKS for seat b6600131a: (*splitter).skipString (32) and ZZSkipString (19).
-/
import Derived.Test.Qxb6600131aProg
import Derived.Test.Qxb6600131aPlain
import Derived.WalkKit
import Derived.WalkSpells
namespace Go.Proofs.Qxb6600131a
open Go.RowKit
open Plain

set_option maxHeartbeats 400000 in
theorem skip_any (w : World) (sb b off len cap : Nat) (T : List Int) (i : Nat)
    (c0 : w.cell? ⟨sb, 0, none⟩ = some (.slice (some ⟨b, off, none⟩) len cap)) (c1 : w.cell? ⟨sb, 1, none⟩ = some (.int .i64 i)) (f1 : w.frozen? ⟨sb, 1, none⟩ = false)
    (hT : T.length = len) (hcell : ∀ k, k < len → w.cell? ⟨b, off + k, none⟩ = some (.int .u8 (T.getD k 0))) (hsm : len ≤ 4194304) (hi : i ≤ len) :
    Calls Try.prog 32 #[.pointer (some ⟨sb, 0, none⟩)] w fun e w' =>
      (∃ j : Nat, ans T (i + 1) = some j ∧ e = .returned (.bool true) ∧ w' = w.setCell ⟨sb, 1, none⟩ (.int .i64 j)) ∨ (ans T (i + 1) = none ∧ e = .returned (.bool false) ∧ w' = w) := by
  go_enter Try.func32, Try.ntmps32
  go_wp2
  go_loop [3] (fun t => ∃ p : Nat, p ≤ len + 1 ∧ t = .int .i64 p ∧ Hid (ans T p = ans T (i + 1))) (fun t => (len + 2 - (intOf t).toNat))
  case atStart => exact ⟨i + 1, by omega, by go_num, rfl⟩
  case round =>
    obtain ⟨p, hp, rfl, H⟩ := hrel
    by_cases hlt : p < len
    · have hc := hcell p hlt
      clear hcell
      by_cases h1 : T.getD p 0 = 92
      · rw [h1] at hc
        go_wp2
        go_round
        case rel => exact ⟨p + 2, by omega, by go_num, (ans_bs T p (by omega) h1).symm.trans H.out⟩
        case measure => simp [intOf]; omega
      · by_cases h2 : T.getD p 0 = 34
        · rw [h2] at hc
          have HA : Hid (ans T (i + 1) = some (p + 1)) := H.out.symm.trans (ans_q T p (by omega) h2)
          go_wp2
          go_ret
          exact .inl ⟨p + 1, HA.out, rfl, by simp⟩
        · have g1 : (T.getD p 0 == 92) = false := by simpa using h1
          have g2 : (T.getD p 0 == 34) = false := by simpa using h2
          have HN : Hid (ans T p = ans T (p + 1)) := ans_o T p (by omega) h1 h2
          clear h1 h2
          generalize T.getD p 0 = c at hc g1 g2
          go_wp2
          go_round
          case rel => exact ⟨p + 1, by omega, by go_num, HN.out.symm.trans H.out⟩
          case measure => simp [intOf]; omega
    · have HA : Hid (ans T (i + 1) = none) := H.out.symm.trans (ans_end T p (by omega))
      go_wp2
      go_ret
      exact .inr ⟨HA.out, rfl, rfl⟩

theorem cell_lt {w : World} {a : Addr} {v : Value} (h : w.cell? a = some v) : a.block < w.heap.size := World.block_lt_of_cell? w a h

set_option maxHeartbeats 400000 in
/-- ZZSkipString: the end of the string, or a refusal and the old place. -/
theorem zzskip_any (w : World) (b off len cap : Nat) (T : List Int) (i : Nat)
    (hT : T.length = len) (hcell : ∀ k, k < len → w.cell? ⟨b, off + k, none⟩ = some (.int .u8 (T.getD k 0))) (hsm : len ≤ 4194304) (hi : i < len) :
    Calls Try.prog 19 #[.slice (some ⟨b, off, none⟩) len cap, .int .i64 i] w fun e w' =>
      Below w.heap.size w w' ∧ ((∃ j : Nat, ans T (i + 1) = some j ∧ e = .returned (.tuple #[.bool true, .int .i64 j])) ∨ (ans T (i + 1) = none ∧ e = .returned (.tuple #[.bool false, .int .i64 i]))) := by
  have hc1 : ∀ o k, k < len → (w.alloc o).cell? ⟨b, off + k, none⟩ = some (.int .u8 (T.getD k 0)) := fun o k hk => by
    exact (World.cell?_of_block (Below.heap_alloc w o b (cell_lt (hcell k hk)))).trans (hcell k hk)
  go_enter Try.func19, Try.ntmps19
  go_wp2_with fail
  refine (skip_any _ w.heap.size b off len cap T i (by simp) (by simp) (by simp) hT (hc1 _) hsm (by omega)).mono ?_
  clear hc1 hcell
  rintro e w' (⟨j, hj, rfl, rfl⟩ | ⟨hj, rfl, rfl⟩)
  · have HJ : Hid (ans T (i + 1) = some j) := hj
    clear hj
    go_wp2
    go_region
    all_goals (try go_wp2)
    all_goals go_ret2
    exact ⟨((Below.refl _ _).alloc (Nat.le_refl _) _).drew, .inl ⟨j, HJ.out, rfl⟩⟩
  · have HJ : Hid (ans T (i + 1) = none) := hj
    clear hj
    go_wp2
    go_region
    all_goals (try go_wp2)
    all_goals go_ret2
    exact ⟨((Below.refl _ _).alloc (Nat.le_refl _) _).drew, .inr ⟨HJ.out, rfl⟩⟩
end Go.Proofs.Qxb6600131a
