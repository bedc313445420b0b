/-
  WALK for seat b6600058a: the bound on total length (21): it answers some bool and turns nothing. Written by a small program of mine (six loops alike).
-/
import Derived.Test.Qxb6600058aKit
namespace Go.Proofs.Qxb6600058a
open Go.RowKit

/-- It answers true or false. -/
def SomeBool (e : Ending) : Prop := ∃ b, e = .returned (.bool b)

set_option maxRecDepth 100000 in
set_option maxHeartbeats 4000000 in
theorem bytes21 (w : World) (self addr : ByteArray) (down : Bool)
    (a1 : Option Addr) (len1 cap1 : Nat) (s1 : List ByteArray) (h1 : HasS w a1 len1 cap1 s1) (l1 : len1 ≤ maxLen)
    (a2 : Option Addr) (len2 cap2 : Nat) (s2 : List ByteArray) (h2 : HasS w a2 len2 cap2 s2) (l2 : len2 ≤ maxLen)
    (a4 : Option Addr) (len4 cap4 : Nat) (s4 : List ByteArray) (h4 : HasS w a4 len4 cap4 s4) (l4 : len4 ≤ maxLen)
    (a5 : Option Addr) (len5 cap5 : Nat) (s5 : List ByteArray) (h5 : HasS w a5 len5 cap5 s5) (l5 : len5 ≤ maxLen)
    (a6 : Option Addr) (len6 cap6 : Nat) (s6 : List ByteArray) (h6 : HasS w a6 len6 cap6 s6) (l6 : len6 ≤ maxLen)
    (a7 : Option Addr) (len7 cap7 : Nat) (s7 : List ByteArray) (h7 : HasS w a7 len7 cap7 s7) (l7 : len7 ≤ maxLen)
    (a3 : Option Addr) (len3 cap3 : Nat) (l3 : len3 ≤ maxLen) (l0 : self.size ≤ maxLen) (l8 : addr.size ≤ maxLen) :
    Calls Try.prog 21 #[.string self, .slice a1 len1 cap1, .slice a2 len2 cap2, .slice a3 len3 cap3, .slice a4 len4 cap4, .slice a5 len5 cap5, .slice a6 len6 cap6, .slice a7 len7 cap7, .string addr, .bool down] w
      fun e w' => SomeBool e ∧ w' = w := by
  unfold maxLen at l0 l1 l2 l3 l4 l5 l6 l7 l8
  go_enter Try.func21, Try.ntmps21
  go_wp2
  all_goals (try (go_ret; exact ⟨⟨_, rfl⟩, rfl⟩))
  go_loop [21, 22] (fun t i => ∃ (k : Nat) (z : Int), k ≤ len1 ∧ i = .int .i64 k ∧ t = .int .i64 z ∧ 0 ≤ z ∧ z ≤ 1048576) (fun _ i => len1 - (intOf i).toNat)
  case atStart => exact ⟨0, _, Nat.zero_le _, rfl, rfl, by omega, by omega⟩
  obtain ⟨k1, z1, hk1, rfl, rfl, hz01, hz11⟩ := hrel
  by_cases hlt1 : k1 < len1
  · obtain ⟨b, off, rfl, s, -, -, hsz, hc⟩ := h1.get hlt1
    unfold maxLen at hsz
    go_wp2
    all_goals (try (go_ret; exact ⟨⟨_, rfl⟩, rfl⟩))
    go_round
    case rel => exact ⟨k1 + 1, _, by omega, by go_num, rfl, by omega, by omega⟩
    case measure => simp [intOf]; omega
  go_wp2
  all_goals (try (go_ret; exact ⟨⟨_, rfl⟩, rfl⟩))
  go_loop [21, 23] (fun t i => ∃ (k : Nat) (z : Int), k ≤ len2 ∧ i = .int .i64 k ∧ t = .int .i64 z ∧ 0 ≤ z ∧ z ≤ 1048576) (fun _ i => len2 - (intOf i).toNat)
  case atStart => exact ⟨0, _, Nat.zero_le _, rfl, rfl, by omega, by omega⟩
  obtain ⟨k2, z2, hk2, rfl, rfl, hz02, hz12⟩ := hrel
  by_cases hlt2 : k2 < len2
  · obtain ⟨b, off, rfl, s, -, -, hsz, hc⟩ := h2.get hlt2
    unfold maxLen at hsz
    go_wp2
    all_goals (try (go_ret; exact ⟨⟨_, rfl⟩, rfl⟩))
    go_round
    case rel => exact ⟨k2 + 1, _, by omega, by go_num, rfl, by omega, by omega⟩
    case measure => simp [intOf]; omega
  go_wp2
  all_goals (try (go_ret; exact ⟨⟨_, rfl⟩, rfl⟩))
  go_loop [21, 24] (fun t i => ∃ (k : Nat) (z : Int), k ≤ len4 ∧ i = .int .i64 k ∧ t = .int .i64 z ∧ 0 ≤ z ∧ z ≤ 1048576) (fun _ i => len4 - (intOf i).toNat)
  case atStart => exact ⟨0, _, Nat.zero_le _, rfl, rfl, by omega, by omega⟩
  obtain ⟨k4, z4, hk4, rfl, rfl, hz04, hz14⟩ := hrel
  by_cases hlt4 : k4 < len4
  · obtain ⟨b, off, rfl, s, -, -, hsz, hc⟩ := h4.get hlt4
    unfold maxLen at hsz
    go_wp2
    all_goals (try (go_ret; exact ⟨⟨_, rfl⟩, rfl⟩))
    go_round
    case rel => exact ⟨k4 + 1, _, by omega, by go_num, rfl, by omega, by omega⟩
    case measure => simp [intOf]; omega
  go_wp2
  all_goals (try (go_ret; exact ⟨⟨_, rfl⟩, rfl⟩))
  go_loop [21, 25] (fun t i => ∃ (k : Nat) (z : Int), k ≤ len5 ∧ i = .int .i64 k ∧ t = .int .i64 z ∧ 0 ≤ z ∧ z ≤ 1048576) (fun _ i => len5 - (intOf i).toNat)
  case atStart => exact ⟨0, _, Nat.zero_le _, rfl, rfl, by omega, by omega⟩
  obtain ⟨k5, z5, hk5, rfl, rfl, hz05, hz15⟩ := hrel
  by_cases hlt5 : k5 < len5
  · obtain ⟨b, off, rfl, s, -, -, hsz, hc⟩ := h5.get hlt5
    unfold maxLen at hsz
    go_wp2
    all_goals (try (go_ret; exact ⟨⟨_, rfl⟩, rfl⟩))
    go_round
    case rel => exact ⟨k5 + 1, _, by omega, by go_num, rfl, by omega, by omega⟩
    case measure => simp [intOf]; omega
  go_wp2
  all_goals (try (go_ret; exact ⟨⟨_, rfl⟩, rfl⟩))
  go_loop [21, 26] (fun t i => ∃ (k : Nat) (z : Int), k ≤ len6 ∧ i = .int .i64 k ∧ t = .int .i64 z ∧ 0 ≤ z ∧ z ≤ 1048576) (fun _ i => len6 - (intOf i).toNat)
  case atStart => exact ⟨0, _, Nat.zero_le _, rfl, rfl, by omega, by omega⟩
  obtain ⟨k6, z6, hk6, rfl, rfl, hz06, hz16⟩ := hrel
  by_cases hlt6 : k6 < len6
  · obtain ⟨b, off, rfl, s, -, -, hsz, hc⟩ := h6.get hlt6
    unfold maxLen at hsz
    go_wp2
    all_goals (try (go_ret; exact ⟨⟨_, rfl⟩, rfl⟩))
    go_round
    case rel => exact ⟨k6 + 1, _, by omega, by go_num, rfl, by omega, by omega⟩
    case measure => simp [intOf]; omega
  go_wp2
  all_goals (try (go_ret; exact ⟨⟨_, rfl⟩, rfl⟩))
  go_loop [21, 27] (fun t i => ∃ (k : Nat) (z : Int), k ≤ len7 ∧ i = .int .i64 k ∧ t = .int .i64 z ∧ 0 ≤ z ∧ z ≤ 1048576) (fun _ i => len7 - (intOf i).toNat)
  case atStart => exact ⟨0, _, Nat.zero_le _, rfl, rfl, by omega, by omega⟩
  obtain ⟨k7, z7, hk7, rfl, rfl, hz07, hz17⟩ := hrel
  by_cases hlt7 : k7 < len7
  · obtain ⟨b, off, rfl, s, -, -, hsz, hc⟩ := h7.get hlt7
    unfold maxLen at hsz
    go_wp2
    all_goals (try (go_ret; exact ⟨⟨_, rfl⟩, rfl⟩))
    go_round
    case rel => exact ⟨k7 + 1, _, by omega, by go_num, rfl, by omega, by omega⟩
    case measure => simp [intOf]; omega
  go_wp2
  all_goals (try (go_ret; exact ⟨⟨_, rfl⟩, rfl⟩))
end Go.Proofs.Qxb6600058a
