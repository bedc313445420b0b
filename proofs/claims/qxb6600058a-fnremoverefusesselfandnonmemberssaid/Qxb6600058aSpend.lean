/-
  WALKS for seat b6600058a: zzSpendString (22), zzSpendStrings (23), zzSpendBools (24), zzCount (25).
-/
import Derived.Test.Qxb6600058aKit
namespace Go.Proofs.Qxb6600058a
open Go.RowKit

theorem spend22 (w : World) (bud : Int) (s : ByteArray) (h1 : -1 ≤ bud) (h2 : bud ≤ 1048576) (hs : s.size ≤ maxLen) :
    Calls Try.prog 22 #[.int .i64 bud, .string s] w fun e w' => w' = w ∧ ∃ r : Int, e = .returned (.int .i64 r) ∧ -1 ≤ r ∧ r ≤ bud ∧ (0 ≤ r → 0 ≤ bud) := by
  unfold maxLen at hs
  by_cases hb : bud < 0
  · go_enter Try.func22, Try.ntmps22
    go_wp2
    go_ret
    exact ⟨rfl, -1, rfl, by omega⟩
  · by_cases hl : bud < (s.size : Int)
    · go_enter Try.func22, Try.ntmps22
      go_wp2
      go_ret
      exact ⟨rfl, -1, rfl, by omega⟩
    · go_enter Try.func22, Try.ntmps22
      go_wp2
      go_ret
      exact ⟨rfl, _, rfl, by omega⟩

theorem spend24 (w : World) (bud : Int) (a : Option Addr) (len cap : Nat) (h1 : -1 ≤ bud) (h2 : bud ≤ 1048576) (hs : len ≤ maxLen) :
    Calls Try.prog 24 #[.int .i64 bud, .slice a len cap] w fun e w' => w' = w ∧ ∃ r : Int, e = .returned (.int .i64 r) ∧ -1 ≤ r ∧ r ≤ bud ∧ (0 ≤ r → 0 ≤ bud ∧ len ≤ 1048576) := by
  unfold maxLen at hs
  by_cases hb : bud < 0
  · go_enter Try.func24, Try.ntmps24
    go_wp2
    go_ret
    exact ⟨rfl, -1, rfl, by omega⟩
  · by_cases hl : bud < (len : Int)
    · go_enter Try.func24, Try.ntmps24
      go_wp2
      go_ret
      exact ⟨rfl, -1, rfl, by omega⟩
    · go_enter Try.func24, Try.ntmps24
      go_wp2
      go_ret
      exact ⟨rfl, _, rfl, by omega⟩

set_option maxHeartbeats 400000 in
theorem spend23 (w : World) (bud : Int) (a : Option Addr) (len cap : Nat) (ss : List ByteArray) (h : HasS w a len cap ss) (h1 : -1 ≤ bud) (h2 : bud ≤ 1048576) (hs : len ≤ maxLen) :
    Calls Try.prog 23 #[.int .i64 bud, .slice a len cap] w fun e w' => w' = w ∧ ∃ r : Int, e = .returned (.int .i64 r) ∧ -1 ≤ r ∧ r ≤ bud ∧ (0 ≤ r → 0 ≤ bud ∧ len ≤ 65536) := by
  unfold maxLen at hs
  by_cases hb : bud < 0
  · go_enter Try.func23, Try.ntmps23
    go_wp2
    go_ret
    exact ⟨rfl, -1, rfl, by omega⟩
  · by_cases hl : bud / 16 < (len : Int)
    · go_enter Try.func23, Try.ntmps23
      go_wp2
      go_ret
      exact ⟨rfl, -1, rfl, by omega⟩
    · go_enter Try.func23, Try.ntmps23
      go_wp2
      go_loop [0, 23] (fun t i => ∃ (k : Nat) (z : Int), k ≤ len ∧ i = .int .i64 k ∧ t = .int .i64 z ∧ 0 ≤ z ∧ z ≤ bud) (fun _ i => len - (intOf i).toNat)
      case atStart => exact ⟨0, _, Nat.zero_le _, rfl, rfl, by omega, by omega⟩
      case round =>
        obtain ⟨k, z, hk, rfl, rfl, hz0, hz1⟩ := hrel
        by_cases hlt : k < len
        · obtain ⟨b, off, rfl, s, -, _, hsz, hc⟩ := h.get hlt
          unfold maxLen at hsz
          by_cases hbig : z < (s.size : Int)
          · go_wp2
            go_ret
            exact ⟨rfl, -1, rfl, by omega⟩
          · go_wp2
            go_round
            case rel => exact ⟨k + 1, z - s.size, by omega, by go_num, by go_num, by omega, by omega⟩
            case measure => simp [intOf]; omega
        · go_wp2
          go_ret
          exact ⟨rfl, z, rfl, by omega⟩

theorem toList_inj {s t : ByteArray} (h : s.toList = t.toList) : s = t := by
  rw [ByteArray.toList_eq, ByteArray.toList_eq] at h
  exact ByteArray.ext (Array.toList_inj.mp h)

set_option maxHeartbeats 400000 in
theorem count25 (w : World) (a : Option Addr) (len cap : Nat) (ss : List ByteArray) (x : ByteArray) (h : HasS w a len cap ss) (hs : len ≤ maxLen) :
    Calls Try.prog 25 #[.slice a len cap, .string x] w fun e w' => w' = w ∧ ∃ r : Int, e = .returned (.int .i64 r) ∧ (¬ 0 < r → x ∉ ss) := by
  unfold maxLen at hs
  go_enter Try.func25, Try.ntmps25
  go_wp2
  go_loop [5, 10] (fun t i => ∃ (k : Nat) (z : Nat), k ≤ len ∧ i = .int .i64 k ∧ t = .int .i64 z ∧ z ≤ k ∧ Hid (z = 0 → x ∉ ss.take k)) (fun _ i => len - (intOf i).toNat)
  case atStart => exact ⟨0, 0, Nat.zero_le _, rfl, rfl, by omega, fun _ => by simp⟩
  case round =>
    obtain ⟨k, z, hk, rfl, rfl, hz0, hz1⟩ := hrel
    by_cases hlt : k < len
    · have hl := h.length
      obtain ⟨b, off, rfl, s, hse, _, hsz, hc⟩ := h.get hlt
      have HS : Hid (s = ss.getD k ByteArray.empty) := hse
      have HL : Hid (ss.length = len) := hl
      clear hse hl
      by_cases heq : s = x
      · have ht : (s.toList == x.toList) = true := by simp [heq]
        clear heq
        go_wp2
        go_round
        case rel => exact ⟨k + 1, z + 1, by omega, by go_num, by go_num, by omega, fun h => by omega⟩
        case measure => simp [intOf]; omega
      · have ht : (s.toList == x.toList) = false := by
          rw [beq_eq_false_iff_ne]
          exact fun e => heq (toList_inj e)
        have HN : Hid (x ≠ s) := fun e => heq e.symm
        clear heq
        go_wp2
        go_round
        case rel =>
          refine ⟨k + 1, z, by omega, by go_num, rfl, by omega, fun h0 => ?_⟩
          rw [List.take_succ_eq_append_getElem (by rw [HL.out]; exact hlt), List.mem_append, not_or]
          refine ⟨hz1.out h0, fun hm => HN.out ?_⟩
          rw [HS.out]
          simpa [show k < ss.length by rw [HL.out]; exact hlt] using hm
        case measure => simp [intOf]; omega
    · go_wp2
      go_ret
      refine ⟨rfl, z, rfl, fun hz => ?_⟩
      have := hz1.out (by omega)
      rwa [List.take_of_length_le (by rw [h.length]; omega)] at this
end Go.Proofs.Qxb6600058a
