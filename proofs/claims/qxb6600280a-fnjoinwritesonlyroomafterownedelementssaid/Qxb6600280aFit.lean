/-
  WALKS for seat b6600280a: the bound on total length (31), jInputsFit (22), jAtInt (27), jOwned (32), jEqual (29).
-/
import Derived.Test.Qxb6600280aKit
namespace Go.Proofs.Qxb6600280a
open Go.RowKit
set_option linter.unusedVariables false

theorem bytes31 (w : World) (a0 : Option Addr) (l0 c0 : Nat) (a1 : Option Addr) (l1 c1 : Nat) (a2 : Option Addr) (l2 c2 : Nat) (a3 : Option Addr) (l3 c3 : Nat) (a4 : Option Addr) (l4 c4 : Nat) (f l : Int)
    (h0 : l0 ≤ maxLen) (h1 : l1 ≤ maxLen) (h2 : l2 ≤ maxLen) (h3 : l3 ≤ maxLen) (h4 : l4 ≤ maxLen) :
    Calls Try.prog 31 #[.slice a0 l0 c0, .slice a1 l1 c1, .slice a2 l2 c2, .slice a3 l3 c3, .slice a4 l4 c4, .int .i64 f, .int .i64 l] w fun e w' => SomeBool e ∧ w' = w := by
  unfold maxLen at h0 h1 h2 h3 h4
  go_enter Try.func31, Try.ntmps31
  go_wp2
  all_goals (go_ret; exact ⟨⟨_, rfl⟩, rfl⟩)

/-- The first k sizes together. -/
def psum (sz : List Int) (k : Nat) : Int := (sz.take k).sum
theorem psum_zero (sz : List Int) : psum sz 0 = 0 := by simp [psum]
theorem psum_succ (sz : List Int) (k : Nat) (h : k < sz.length) : psum sz (k + 1) = psum sz k + sz.getD k 0 := by
  unfold psum
  rw [List.take_succ_eq_append_getElem h, List.sum_append]
  simp [h]

/-- The inputs are as the law wants them. -/
structure Fit (ld : Nat) (sz rm : List Int) (first last : Int) : Prop where
  sizes : ∀ k, k < sz.length → 1 ≤ sz.getD k 0 ∧ sz.getD k 0 ≤ 65536
  total : psum sz sz.length ≤ ld
  rooms : ∀ k, k < rm.length → 0 ≤ rm.getD k 0 ∧ rm.getD k 0 ≤ 8192
  first0 : 0 ≤ first
  last0 : first ≤ last
  last1 : last ≤ 1073741824
  first1 : first < sz.length

/-- It answers some bool; true only where P holds. -/
def Tells (e : Ending) (P : Prop) : Prop := ∃ b, e = .returned (.bool b) ∧ (b = true → P)

set_option maxRecDepth 100000 in
set_option maxHeartbeats 2000000 in
theorem fit22 (w : World) (a0 : Option Addr) (l0 c0 : Nat) (a1 : Option Addr) (l1 c1 : Nat) (sz : List Int) (h1 : HasI .i64 w a1 l1 c1 sz) (a2 : Option Addr) (l2 c2 : Nat) (a3 : Option Addr) (l3 c3 : Nat) (a4 : Option Addr) (l4 c4 : Nat) (rm : List Int) (h4 : HasI .i64 w a4 l4 c4 rm) (f l : Int)
    (m0 : l0 ≤ 524288) (m1 : l1 ≤ 4096) (m2 : l2 ≤ 4096) (m3 : l3 ≤ 4096) (m4 : l4 ≤ 4096) (wf1 : -9223372036854775808 ≤ f) (wf2 : f ≤ 9223372036854775807) :
    Calls Try.prog 22 #[.slice a0 l0 c0, .slice a1 l1 c1, .slice a2 l2 c2, .slice a3 l3 c3, .slice a4 l4 c4, .int .i64 f, .int .i64 l] w fun e w' => Tells e (Fit l0 sz rm f l) ∧ w' = w := by
  have HL1 : Hid (sz.length = l1) := h1.length
  have HL4 : Hid (rm.length = l4) := h4.length
  go_enter Try.func22, Try.ntmps22
  by_cases hf0 : f < 0
  · go_wp2
    go_ret
    exact ⟨⟨false, rfl, fun h => by cases h⟩, rfl⟩
  by_cases hl0 : l < f
  · go_wp2
    go_ret
    exact ⟨⟨false, rfl, fun h => by cases h⟩, rfl⟩
  by_cases hl1 : 1073741824 < l
  · go_wp2
    go_ret
    exact ⟨⟨false, rfl, fun h => by cases h⟩, rfl⟩
  by_cases hf1 : (l1 : Int) - 1 < f
  · go_wp2
    go_ret
    exact ⟨⟨false, rfl, fun h => by cases h⟩, rfl⟩
  go_wp2
  go_loop [15, 16] (fun t i => ∃ k : Nat, k ≤ l1 ∧ i = .int .i64 k ∧ t = .int .i64 (psum sz k) ∧ 0 ≤ psum sz k ∧ psum sz k ≤ 65536 * k ∧ Hid (∀ j, j < k → 1 ≤ sz.getD j 0 ∧ sz.getD j 0 ≤ 65536)) (fun _ i => l1 - (intOf i).toNat)
  case atStart => exact ⟨0, Nat.zero_le _, rfl, by rw [psum_zero], by simp [psum_zero], by simp [psum_zero], fun j hj => by omega⟩
  obtain ⟨k, hk, rfl, rfl, hp0, hp1, HK⟩ := hrel
  by_cases hlt : k < l1
  · obtain ⟨b, off, rfl, -, hc⟩ := h1.get hlt
    have HS : Hid (psum sz (k + 1) = psum sz k + sz.getD k 0) := psum_succ sz k (by rw [HL1.out]; exact hlt)
    have HZ : Hid (∀ z, z = sz.getD k 0 → 1 ≤ z → z ≤ 65536 → ∀ j, j < k + 1 → 1 ≤ sz.getD j 0 ∧ sz.getD j 0 ≤ 65536) := fun z hz h1 h2 j hj => by
      by_cases e : j = k
      · subst e; rw [← hz]; exact ⟨h1, h2⟩
      · exact HK.out j (by omega)
    obtain ⟨z, hz⟩ : ∃ z, z = sz.getD k 0 := ⟨_, rfl⟩
    rw [← hz] at hc HS
    have HE : Hid (z = sz.getD k 0) := hz
    clear hz h1 h4
    generalize psum sz k = p at *
    by_cases hz1 : z < 1
    · go_wp2
      go_ret
      exact ⟨⟨false, rfl, fun h => by cases h⟩, rfl⟩
    by_cases hz2 : 65536 < z
    · go_wp2
      go_ret
      exact ⟨⟨false, rfl, fun h => by cases h⟩, rfl⟩
    go_wp2
    go_round
    case rel => exact ⟨k + 1, by omega, by go_num, by rw [HS.out], by rw [HS.out]; omega, by rw [HS.out]; omega, HZ.out z HE.out (by omega) (by omega)⟩
    case measure => simp [intOf]; omega
  obtain rfl : l1 = k := by omega
  have HP : Hid (∀ j, j < sz.length → 1 ≤ sz.getD j 0 ∧ sz.getD j 0 ≤ 65536) := by rw [HL1.out]; exact HK.out
  have HT : Hid (psum sz sz.length = psum sz l1) := by show _ = _; rw [HL1.out]
  clear HK
  generalize psum sz l1 = p at *
  by_cases hbig : (l0 : Int) < p
  · go_wp2
    go_ret
    exact ⟨⟨false, rfl, fun h => by cases h⟩, rfl⟩
  go_wp2
  go_loop [17, 18] (fun t i => ∃ (k : Nat) (r : Int), k ≤ l4 ∧ i = .int .i64 k ∧ t = .int .i64 r ∧ 0 ≤ r ∧ r ≤ 8192 * k ∧ Hid (∀ j, j < k → 0 ≤ rm.getD j 0 ∧ rm.getD j 0 ≤ 8192)) (fun _ i => l4 - (intOf i).toNat)
  case atStart => exact ⟨0, 0, Nat.zero_le _, rfl, rfl, by omega, by omega, fun j hj => by omega⟩
  obtain ⟨k, r, hk, rfl, rfl, hp2, hp3, HK⟩ := hrel
  by_cases hlt4 : k < l4
  · obtain ⟨b, off, rfl, -, hc⟩ := h4.get hlt4
    have HZ : Hid (∀ z, z = rm.getD k 0 → 0 ≤ z → z ≤ 8192 → ∀ j, j < k + 1 → 0 ≤ rm.getD j 0 ∧ rm.getD j 0 ≤ 8192) := fun z hz h1 h2 j hj => by
      by_cases e : j = k
      · subst e; rw [← hz]; exact ⟨h1, h2⟩
      · exact HK.out j (by omega)
    obtain ⟨z, hz⟩ : ∃ z, z = rm.getD k 0 := ⟨_, rfl⟩
    rw [← hz] at hc
    have HE : Hid (z = rm.getD k 0) := hz
    clear hz h1 h4
    by_cases hz1 : z < 0
    · go_wp2
      go_ret
      exact ⟨⟨false, rfl, fun h => by cases h⟩, rfl⟩
    by_cases hz2 : 8192 < z
    · go_wp2
      go_ret
      exact ⟨⟨false, rfl, fun h => by cases h⟩, rfl⟩
    go_wp2
    go_round
    case rel => exact ⟨k + 1, r + z, by omega, by go_num, by go_num, by omega, by omega, HZ.out z HE.out (by omega) (by omega)⟩
    case measure => simp [intOf]; omega
  obtain rfl : l4 = k := by omega
  have HF : Hid (Fit l0 sz rm f l) := ⟨HP.out, by rw [HT.out]; omega, by rw [HL4.out]; exact HK.out, by omega, by omega, by omega, by rw [HL1.out]; omega⟩
  go_wp2
  go_ret
  exact ⟨⟨_, rfl, fun _ => HF.out⟩, rfl⟩

theorem atInt27 (w : World) (a : Option Addr) (len cap : Nat) (zs : List Int) (h : HasI .i64 w a len cap zs) (k : Nat) (d : Int) (hl : len ≤ 4096) (hk : k ≤ 4096) :
    Calls Try.prog 27 #[.slice a len cap, .int .i64 k, .int .i64 d] w fun e w' => e = .returned (.int .i64 (if k < len then zs.getD k 0 else d)) ∧ w' = w := by
  by_cases hlt : k < len
  · obtain ⟨b, off, rfl, -, hc⟩ := h.get hlt
    rw [if_pos hlt]
    generalize zs.getD k 0 = z at *
    go_enter Try.func27, Try.ntmps27
    go_wp2
    go_ret
    exact ⟨rfl, rfl⟩
  · rw [if_neg hlt]
    go_enter Try.func27, Try.ntmps27
    go_wp2
    go_ret
    exact ⟨rfl, rfl⟩

theorem owned32 (w : World) (a : Option Addr) (len cap : Nat) (zs : List Bool) (h : HasB w a len cap zs) (k : Nat) (hl : len ≤ 4096) (hk : k ≤ 4096) :
    Calls Try.prog 32 #[.slice a len cap, .int .i64 k] w fun e w' => e = .returned (.bool (if k < len then zs.getD k false else false)) ∧ w' = w := by
  by_cases hlt : k < len
  · obtain ⟨b, off, rfl, hc⟩ := h.get hlt
    rw [if_pos hlt]
    generalize zs.getD k false = z at *
    go_enter Try.func32, Try.ntmps32
    go_wp2
    go_ret
    exact ⟨rfl, rfl⟩
  · rw [if_neg hlt]
    go_enter Try.func32, Try.ntmps32
    go_wp2
    go_ret
    exact ⟨rfl, rfl⟩

set_option maxHeartbeats 800000 in
theorem equal29 (w : World) (a : Option Addr) (len cap : Nat) (a' : Option Addr) (cap' : Nat) (zs : List Int) (h : HasI .u8 w a len cap zs) (h' : HasI .u8 w a' len cap' zs) (hsm : len ≤ 1048576) :
    Calls Try.prog 29 #[.slice a len cap, .slice a' len cap'] w fun e w' => e = .returned (.bool true) ∧ Below w.heap.size w w' := by
  have hne : ((len : Int) != (len : Int)) = false := by simp
  go_enter Try.func29, Try.ntmps29
  go_wp2
  go_loopw [5] (fun i wr => ∃ k : Nat, k ≤ len ∧ i = .int .i64 k ∧ Below w.heap.size w wr) (fun i _ => len - (intOf i).toNat)
  case atStart => exact ⟨0, Nat.zero_le _, rfl, Below.refl _ _⟩
  case round =>
    obtain ⟨k, hk, rfl, hb⟩ := hrel
    by_cases hlt : k < len
    · obtain ⟨b, off, rfl, -, hc⟩ := (h.below hb (Nat.le_refl _)).get hlt
      obtain ⟨b', off', rfl, -, hc'⟩ := (h'.below hb (Nat.le_refl _)).get hlt
      clear h h'
      generalize zs.getD k 0 = s at hc hc'
      have hi1 : (0 : Int) ≤ (k : Int) := by omega
      have hi2 : (k : Int) < (len : Int) := by omega
      have hq : (s != s) = false := by simp
      go_wp2
      go_quiet (fail)
      go_wp2
      go_roundw
      case rel => exact ⟨k + 1, by omega, by go_num, below_drewN hb _⟩
      case measure => simp [intOf]; omega
    · go_wp2
      go_ret
      exact ⟨rfl, hb⟩
end Go.Proofs.Qxb6600280a
