/-
  THE INPUT GRAPH for seat b6600314a: zzBytes (18, 14), graphTooBig (8), graphWellFormed (9).
-/
import Derived.Test.Qxb6600314aComps
import Derived.Deep.LoopGhost
namespace Go.Proofs.Qxb6600314a
open Go.RowKit
set_option linter.unusedVariables false

/-- A slice of slices of integers. -/
structure InG (w : World) (a : Option Addr) (len : Nat) (Z : Nat → List Int) : Prop where
  row : ∀ i, i < len → ∃ b off, a = some ⟨b, off, none⟩ ∧ ∃ r c, w.cell? ⟨b, off + i, none⟩ = some (.slice r (Z i).length c) ∧ (r = none → (Z i).length = 0 ∧ c = 0) ∧ ∀ k z, (Z i)[k]? = some z → ∃ R o, r = some ⟨R, o, none⟩ ∧ w.cell? ⟨R, o + k, none⟩ = some (.int .i64 z)
  max : ∀ i, i < len → (Z i).length ≤ maxLen
  lmax : len ≤ maxLen

theorem bytes18 (w : World) (a : Option Addr) (len cap : Nat) (Z : Nat → List Int) (h : InG w a len Z) (x y z : Int) :
    Calls Try.prog 18 #[.slice a len cap, .int .i64 x, .int .i64 y, .int .i64 z] w fun r w' => (∃ b, r = .returned (.bool b)) ∧ w' = w := by
  have hl := h.lmax
  unfold maxLen at hl
  have H : Hid _ := h
  clear h
  go_enter Try.func18, Try.ntmps18
  by_cases h1 : len ≤ 1048576
  · go_wp2_with fail
    go_loopg [9, 10] len (fun gk s9 s10 wr => ∃ k m : Nat, k ≤ len ∧ m ≤ 1048576 ∧ len - k ≤ gk ∧ s9 = .int .i64 (m : Int) ∧ s10 = .int .i64 (k : Int) ∧ wr = w)
    case atStart => exact ⟨0, len, Nat.zero_le _, h1, by omega, by simp, rfl, rfl⟩
    case round =>
      obtain ⟨k, m, hk, hm, hgk, rfl, rfl, rfl⟩ := hrel
      by_cases hlt : k < len
      · obtain ⟨b, off, rfl, r, c, hr, -⟩ := H.out.row k hlt
        have hmax := H.out.max k hlt
        unfold maxLen at hmax
        generalize (Z k).length = L at hr hmax
        by_cases h2 : L ≤ 1048576
        · obtain ⟨m', hm'⟩ : ∃ m', m' = m + L := ⟨_, rfl⟩
          have hmi : (m : Int) + (L : Int) = (m' : Int) := by omega
          have HM : Hid _ := hm'
          clear hm'
          by_cases h3 : m' ≤ 1048576
          · go_wp2_with fail
            go_roundg (len - (k + 1))
            case measure => omega
            case rel => exact ⟨k + 1, m', by omega, h3, Nat.le_refl _, rfl, by go_num, rfl⟩
          · go_wp2_with fail
            go_ret
            exact ⟨⟨_, rfl⟩, rfl⟩
        · go_wp2_with fail
          go_ret
          exact ⟨⟨_, rfl⟩, rfl⟩
      · go_wp2_with fail
        go_ret
        exact ⟨⟨_, rfl⟩, rfl⟩
  · go_wp2_with fail
    go_ret
    exact ⟨⟨_, rfl⟩, rfl⟩
theorem bytes14 (w : World) (a : Option Addr) (len cap : Nat) (Z : Nat → List Int) (h : InG w a len Z) (x y : Int) :
    Calls Try.prog 14 #[.slice a len cap, .int .i64 x, .int .i64 y] w fun r w' => (∃ b, r = .returned (.bool b)) ∧ w' = w := by
  have hl := h.lmax
  unfold maxLen at hl
  have H : Hid _ := h
  clear h
  go_enter Try.func14, Try.ntmps14
  by_cases h1 : len ≤ 1048576
  · go_wp2_with fail
    go_loopg [7, 8] len (fun gk s9 s10 wr => ∃ k m : Nat, k ≤ len ∧ m ≤ 1048576 ∧ len - k ≤ gk ∧ s9 = .int .i64 (m : Int) ∧ s10 = .int .i64 (k : Int) ∧ wr = w)
    case atStart => exact ⟨0, len, Nat.zero_le _, h1, by omega, by simp, rfl, rfl⟩
    case round =>
      obtain ⟨k, m, hk, hm, hgk, rfl, rfl, rfl⟩ := hrel
      by_cases hlt : k < len
      · obtain ⟨b, off, rfl, r, c, hr, -⟩ := H.out.row k hlt
        have hmax := H.out.max k hlt
        unfold maxLen at hmax
        generalize (Z k).length = L at hr hmax
        by_cases h2 : L ≤ 1048576
        · obtain ⟨m', hm'⟩ : ∃ m', m' = m + L := ⟨_, rfl⟩
          have hmi : (m : Int) + (L : Int) = (m' : Int) := by omega
          have HM : Hid _ := hm'
          clear hm'
          by_cases h3 : m' ≤ 1048576
          · go_wp2_with fail
            go_roundg (len - (k + 1))
            case measure => omega
            case rel => exact ⟨k + 1, m', by omega, h3, Nat.le_refl _, rfl, by go_num, rfl⟩
          · go_wp2_with fail
            go_ret
            exact ⟨⟨_, rfl⟩, rfl⟩
        · go_wp2_with fail
          go_ret
          exact ⟨⟨_, rfl⟩, rfl⟩
      · go_wp2_with fail
        go_ret
        exact ⟨⟨_, rfl⟩, rfl⟩
  · go_wp2_with fail
    go_ret
    exact ⟨⟨_, rfl⟩, rfl⟩

theorem big8 (w : World) (a : Option Addr) (len cap : Nat) (Z : Nat → List Int) (h : InG w a len Z) :
    Calls Try.prog 8 #[.slice a len cap] w fun r w' => (∃ b, r = .returned (.bool b) ∧ (b = false → len ≤ 65536 ∧ ∀ i, i < len → (Z i).length ≤ 1048576)) ∧ w' = w := by
  have hl := h.lmax
  unfold maxLen at hl
  have H : Hid _ := h
  clear h
  go_enter Try.func8, Try.ntmps8
  by_cases h1 : len ≤ 65536
  · by_cases h4 : 24 * len ≤ 1048576
    · go_wp2_with fail
      go_loopg [3, 4] len (fun gk s9 s10 wr => ∃ k m : Nat, k ≤ len ∧ m ≤ 1048576 ∧ len - k ≤ gk ∧ s9 = .int .i64 (m : Int) ∧ s10 = .int .i64 (k : Int) ∧ wr = w ∧ Hid (∀ i, i < k → (Z i).length ≤ 1048576))
      case atStart => exact ⟨0, 24 * len, Nat.zero_le _, h4, by omega, by go_num, rfl, rfl, fun i hi => by omega⟩
      case round =>
        obtain ⟨k, m, hk, hm, hgk, rfl, rfl, rfl, HA⟩ := hrel
        by_cases hlt : k < len
        · obtain ⟨b, off, rfl, r, c, hr, -⟩ := H.out.row k hlt
          have hmax := H.out.max k hlt
          unfold maxLen at hmax
          obtain ⟨L, hL⟩ : ∃ L, L = (Z k).length := ⟨_, rfl⟩
          rw [← hL] at hr hmax
          have HL : Hid _ := hL
          clear hL
          by_cases h2 : L ≤ 1048576
          · obtain ⟨m', hm'⟩ : ∃ m', m' = m + 8 * L := ⟨_, rfl⟩
            have hmi : (m : Int) + 8 * (L : Int) = (m' : Int) := by omega
            have HM : Hid _ := hm'
            clear hm'
            by_cases h3 : m' ≤ 1048576
            · go_wp2_with fail
              go_roundg (len - (k + 1))
              case measure => omega
              case rel => exact ⟨k + 1, m', by omega, h3, Nat.le_refl _, rfl, by go_num, rfl, fun i hi => by
                by_cases e : i = k
                · rw [e, ← HL.out]; exact h2
                · exact HA.out i (by omega)⟩
            · go_wp2_with fail
              go_ret
              exact ⟨⟨_, rfl, fun e => by cases e⟩, rfl⟩
          · go_wp2_with fail
            go_ret
            exact ⟨⟨_, rfl, fun e => by cases e⟩, rfl⟩
        · obtain rfl : k = len := by omega
          go_wp2_with fail
          go_ret
          exact ⟨⟨_, rfl, fun _ => ⟨h1, HA.out⟩⟩, rfl⟩
    · go_wp2_with fail
      go_ret
      exact ⟨⟨_, rfl, fun e => by cases e⟩, rfl⟩
  · go_wp2_with fail
    go_ret
    exact ⟨⟨_, rfl, fun e => by cases e⟩, rfl⟩

set_option maxHeartbeats 800000 in
theorem wf9 (w : World) (a : Option Addr) (len cap : Nat) (Z : Nat → List Int) (h : InG w a len Z) (hn : len ≤ 65536) (hz : ∀ i, i < len → (Z i).length ≤ 1048576) :
    Calls Try.prog 9 #[.slice a len cap] w fun r w' => (∃ b, r = .returned (.bool b) ∧ (b = true → ∀ i, i < len → ∀ z ∈ Z i, 0 ≤ z ∧ z < (len : Int))) ∧ w' = w := by
  have H : Hid _ := h
  have HZ : Hid _ := hz
  clear h hz
  go_enter Try.func9, Try.ntmps9
  go_wp2_with fail
  go_loopg [4] len (fun gk s4 wr => ∃ k : Nat, k ≤ len ∧ len - k ≤ gk ∧ s4 = .int .i64 (k : Int) ∧ wr = w ∧ Hid (∀ i, i < k → ∀ z ∈ Z i, 0 ≤ z ∧ z < (len : Int)))
  case atStart => exact ⟨0, Nat.zero_le _, by omega, rfl, rfl, fun i hi => by omega⟩
  case round =>
    obtain ⟨k, hk, hgk, rfl, rfl, HA⟩ := hrel
    by_cases hlt : k < len
    · obtain ⟨b, off, rfl, r, c, hr, -, hrk⟩ := H.out.row k hlt
      have hmax := HZ.out k hlt
      obtain ⟨L, hL⟩ : ∃ L, L = (Z k).length := ⟨_, rfl⟩
      rw [← hL] at hr hmax
      have HL : Hid _ := hL
      have HR : Hid _ := hrk
      clear hL hrk
      go_wp2_with fail
      go_loopg [6] L (fun gk s6 wr' => ∃ j : Nat, j ≤ L ∧ L - j ≤ gk ∧ s6 = .int .i64 (j : Int) ∧ wr' = wr ∧ Hid (∀ q z, q < j → (Z k)[q]? = some z → 0 ≤ z ∧ z < (len : Int)))
      case atStart => exact ⟨0, Nat.zero_le _, by omega, rfl, rfl, fun q z hq => by omega⟩
      case round =>
        obtain ⟨j, hj, hgj, rfl, rfl, HB⟩ := hrel
        by_cases hjl : j < L
        · obtain ⟨z, hz⟩ : ∃ z, (Z k)[j]? = some z := ⟨_, List.getElem?_eq_getElem (by rw [← HL.out]; exact hjl)⟩
          obtain ⟨R, o, rfl, hc⟩ := HR.out j z hz
          have HZ2 : Hid _ := hz
          clear hz
          by_cases h0 : z < 0
          · go_wp2_with fail
            go_ret
            exact ⟨⟨_, rfl, fun e => by cases e⟩, rfl⟩
          · by_cases h5 : z < (len : Int)
            · go_wp2_with fail
              go_roundg (L - (j + 1))
              case measure => omega
              case rel => exact ⟨j + 1, by omega, Nat.le_refl _, by go_num, rfl, fun q y hq hy => by
                by_cases e : q = j
                · rw [e, HZ2.out] at hy
                  cases hy
                  omega
                · exact HB.out q y (by omega) hy⟩
            · go_wp2_with fail
              go_ret
              exact ⟨.inl rfl, rfl⟩
        · go_wp2_with fail
          go_roundg (len - (k + 1))
          case measure => omega
          case rel => exact ⟨k + 1, by omega, Nat.le_refl _, by go_num, rfl, fun i hi z hz => by
            by_cases e : i = k
            · subst e
              obtain ⟨q, hq, hqz⟩ := List.getElem_of_mem hz
              exact HB.out q z (by have := HL.out; omega) (by rw [List.getElem?_eq_getElem hq, hqz])
            · exact HA.out i (by omega) z hz⟩
    · obtain rfl : k = len := by omega
      go_wp2_with fail
      go_ret
      exact ⟨⟨_, rfl, fun _ => HA.out⟩, rfl⟩
end Go.Proofs.Qxb6600314a
