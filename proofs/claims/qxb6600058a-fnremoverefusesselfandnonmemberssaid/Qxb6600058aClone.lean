/-
  WALKS for seat b6600058a: zzCloneStrings (26), zzCloneBools (27), zzEqualStrings (30), zzEqualBools (33).
-/
import Derived.Test.Qxb6600058aSpend
import Derived.WalkSmall
namespace Go.Proofs.Qxb6600058a
open Go.RowKit

/-- A SLICE OF BOOLS. -/
def HasB (w : World) (a : Option Addr) (len cap : Nat) (bs : List Bool) : Prop := Has w a len cap (bs.map Value.bool)
theorem HasB.length {w : World} {a : Option Addr} {len cap : Nat} {ss : List Bool} (h : HasB w a len cap ss) : ss.length = len := by simpa using Has.length h
theorem HasB.below {w w' : World} {B : Nat} {a : Option Addr} {len cap : Nat} {ss : List Bool} (h : HasB w a len cap ss) (hb : Below B w w') (hB : w.heap.size ≤ B) : HasB w' a len cap ss := Has.below h hb hB
theorem HasB.get {w : World} {a : Option Addr} {len cap : Nat} {ss : List Bool} (h : HasB w a len cap ss) {k : Nat} (hk : k < len) :
    ∃ b off, a = some ⟨b, off, none⟩ ∧ w.cell? ⟨b, off + k, none⟩ = some (.bool (ss.getD k false)) := by
  obtain ⟨b, off, ha, _, hc⟩ := Has.at h (by omega)
  exact ⟨b, off, ha, hc k _ (getD_map_bool ss k (by rw [h.length]; exact hk))⟩

set_option maxHeartbeats 400000 in
theorem clone26_some (w : World) (ad : Addr) (len cap : Nat) (ss : List ByteArray) (h : HasS w (some ad) len cap ss) (hsm : len ≤ 65536) :
    Calls Try.prog 26 #[.slice (some ad) len cap] w fun e w' =>
      e = .returned (.slice (some ⟨w.heap.size, 0, none⟩) len len) ∧ w'.heap[w.heap.size]? = some (.cells (ss.map Value.string).toArray 9 (0, 0)) ∧ Below w.heap.size w w' := by
  obtain ⟨i0, hi0, hz0, hz1, hz2⟩ := info_parts Try.info9
  have hne := fun w => Lib.run_eql_slice_nil (P := Try.prog) w 35 9 (some ad) len cap 0 0 Try.underlying35
  have hsz : (Try.prog.info? 9).map (·.size) = some 1 := by rw [hi0]; simp [hz1]
  have HL : Hid (ss.length = len) := h.length
  go_enter Try.func26, Try.ntmps26
  go_wp2_with (first
    | (at_make; refine wpList_make_full _ rfl _ _ 35 rfl w.heap.size 9 i0 (.string ByteArray.empty) 1 Try.underlying35 hi0 hz0 hz1 _ _ _ _ len rfl rfl rfl rfl (by rw [hz2]; omega) (by unfold maxLen; omega) (Nat.le_refl _) ?_; intro w1 ho1 hg1; have hH1 := owns_full ho1; have hb1 := (Below.refl w.heap.size w).grown hg1 (Nat.le_refl _) (by simp); have hl1 := ho1.1; clear ho1)
    | (refine wpList_copy_splice rfl (.tmp 9) (.tmp 10) 35 35 rfl 9 Try.underlying35 hsz _ _ _ _ _ _ rfl rfl w.heap.size 0 _ 9 hH1 (ss.map Value.string) (by simp [HL.out]) (fun _ => ⟨rfl, _, rfl, fun j v hv => hg1.cell (h.1.cells _ rfl j v hv) (by simp)⟩) (by rw [hl1]; simp [HL.out]) (strings_oneCell ss) w.heap.size w hb1 (Nat.le_refl _) ?_; intro w2 HG2 hb2))
  go_ret
  refine ⟨rfl, ?_, hb2⟩
  have := HG2.out
  rwa [splice_all _ _ (by simpa [HL.out] using hl1)] at this

theorem clone26_none (w : World) (len cap : Nat) :
    Calls Try.prog 26 #[.slice none len cap] w fun e w' => e = .returned (.slice none 0 0) ∧ w' = w := by
  have hne := fun w => Lib.run_eql_slice_nil (P := Try.prog) w 35 9 none len cap 0 0 Try.underlying35
  go_enter Try.func26, Try.ntmps26
  go_wp2
  go_ret
  exact ⟨rfl, rfl⟩

theorem clone26 (w : World) (a : Option Addr) (len cap : Nat) (ss : List ByteArray) (h : HasS w a len cap ss) (hsm : len ≤ 65536) :
    Calls Try.prog 26 #[.slice a len cap] w fun e w' => ∃ a' cap', e = .returned (.slice a' len cap') ∧ HasS w' a' len cap' ss ∧ Below w.heap.size w w' := by
  cases a with
  | none =>
    obtain ⟨rfl, rfl⟩ := h.1.nil rfl
    refine (clone26_none w 0 0).mono ?_
    rintro e w' ⟨rfl, rfl⟩
    exact ⟨none, 0, rfl, h, Below.refl _ _⟩
  | some ad =>
    refine (clone26_some w ad len cap ss h hsm).mono ?_
    rintro e w' ⟨rfl, hh, hb⟩
    have hr := Has.of_row hh
    rw [List.length_map, h.length] at hr
    exact ⟨_, len, rfl, ⟨hr, h.2⟩, hb⟩

set_option maxHeartbeats 400000 in
theorem clone27_some (w : World) (ad : Addr) (len cap : Nat) (ss : List Bool) (h : HasB w (some ad) len cap ss) (hsm : len ≤ 1048576) :
    Calls Try.prog 27 #[.slice (some ad) len cap] w fun e w' =>
      e = .returned (.slice (some ⟨w.heap.size, 0, none⟩) len len) ∧ w'.heap[w.heap.size]? = some (.cells (ss.map Value.bool).toArray 4 (0, 0)) ∧ Below w.heap.size w w' := by
  obtain ⟨i0, hi0, hz0, hz1, hz2⟩ := info_parts Try.info4
  have hne := fun w => Lib.run_eql_slice_nil (P := Try.prog) w 36 4 (some ad) len cap 0 0 Try.underlying36
  have hsz : (Try.prog.info? 4).map (·.size) = some 1 := by rw [hi0]; simp [hz1]
  have HL : Hid (ss.length = len) := h.length
  go_enter Try.func27, Try.ntmps27
  go_wp2_with (first
    | (at_make; refine wpList_make_full _ rfl _ _ 36 rfl w.heap.size 4 i0 (.bool false) 1 Try.underlying36 hi0 hz0 hz1 _ _ _ _ len rfl rfl rfl rfl (by rw [hz2]; omega) (by unfold maxLen; omega) (Nat.le_refl _) ?_; intro w1 ho1 hg1; have hH1 := owns_full ho1; have hb1 := (Below.refl w.heap.size w).grown hg1 (Nat.le_refl _) (by simp); have hl1 := ho1.1; clear ho1)
    | (refine wpList_copy_splice rfl (.tmp 9) (.tmp 10) 36 36 rfl 4 Try.underlying36 hsz _ _ _ _ _ _ rfl rfl w.heap.size 0 _ 4 hH1 (ss.map Value.bool) (by simp [HL.out]) (fun _ => ⟨rfl, _, rfl, fun j v hv => hg1.cell (Has.cells h _ rfl j v hv) (by simp)⟩) (by rw [hl1]; simp [HL.out]) (bools_oneCell ss) w.heap.size w hb1 (Nat.le_refl _) ?_; intro w2 HG2 hb2))
  go_ret
  refine ⟨rfl, ?_, hb2⟩
  have := HG2.out
  rwa [splice_all _ _ (by simpa [HL.out] using hl1)] at this

theorem clone27_none (w : World) (len cap : Nat) :
    Calls Try.prog 27 #[.slice none len cap] w fun e w' => e = .returned (.slice none 0 0) ∧ w' = w := by
  have hne := fun w => Lib.run_eql_slice_nil (P := Try.prog) w 36 4 none len cap 0 0 Try.underlying36
  go_enter Try.func27, Try.ntmps27
  go_wp2
  go_ret
  exact ⟨rfl, rfl⟩

theorem clone27 (w : World) (a : Option Addr) (len cap : Nat) (ss : List Bool) (h : HasB w a len cap ss) (hsm : len ≤ 1048576) :
    Calls Try.prog 27 #[.slice a len cap] w fun e w' => ∃ a' cap', e = .returned (.slice a' len cap') ∧ HasB w' a' len cap' ss ∧ Below w.heap.size w w' := by
  cases a with
  | none =>
    obtain ⟨rfl, rfl⟩ := Has.nil h rfl
    refine (clone27_none w 0 0).mono ?_
    rintro e w' ⟨rfl, rfl⟩
    exact ⟨none, 0, rfl, h, Below.refl _ _⟩
  | some ad =>
    refine (clone27_some w ad len cap ss h hsm).mono ?_
    rintro e w' ⟨rfl, hh, hb⟩
    have hr := Has.of_row hh
    rw [List.length_map, h.length] at hr
    exact ⟨_, len, rfl, hr, hb⟩

set_option maxHeartbeats 800000 in
theorem equal30 (w : World) (a : Option Addr) (len cap : Nat) (a' : Option Addr) (cap' : Nat) (ss : List ByteArray) (h : HasS w a len cap ss) (h' : HasS w a' len cap' ss) (hsm : len ≤ 65536) :
    Calls Try.prog 30 #[.slice a len cap, .slice a' len cap'] w fun e w' => e = .returned (.bool true) ∧ Below w.heap.size w w' := by
  have hne : ((len : Int) != (len : Int)) = false := by simp
  go_enter Try.func30, Try.ntmps30
  go_wp2
  go_loopw [13, 5] (fun i _ wr => ∃ k : Nat, k ≤ len ∧ i = .int .i64 k ∧ Below w.heap.size w wr) (fun i _ _ => len - (intOf i).toNat)
  case atStart => exact ⟨0, Nat.zero_le _, rfl, Below.refl _ _⟩
  case round =>
    obtain ⟨k, hk, rfl, hb⟩ := hrel
    by_cases hlt : k < len
    · obtain ⟨b, off, rfl, s, hs1, -, hsz, hc⟩ := (h.below hb (Nat.le_refl _)).get hlt
      obtain ⟨b', off', rfl, s', hs2, -, -, hc'⟩ := (h'.below hb (Nat.le_refl _)).get hlt
      obtain rfl : s = s' := hs1.trans hs2.symm
      clear hs1 hs2 h h'
      have hi1 : (0 : Int) ≤ (k : Int) := by omega
      have hi2 : (k : Int) < (len : Int) := by omega
      have hq : (s.toList != s.toList) = false := by simp
      go_wp2
      go_quiet (fail)
      go_wp2
      go_roundw
      case rel => exact ⟨k + 1, by omega, by go_num, below_drewN hb _⟩
      case measure => simp [intOf]; omega
    · go_wp2
      go_ret
      exact ⟨rfl, hb⟩
set_option maxHeartbeats 800000 in
theorem equal33 (w : World) (a : Option Addr) (len cap : Nat) (a' : Option Addr) (cap' : Nat) (ss : List Bool) (h : HasB w a len cap ss) (h' : HasB w a' len cap' ss) (hsm : len ≤ 1048576) :
    Calls Try.prog 33 #[.slice a len cap, .slice a' len cap'] w fun e w' => e = .returned (.bool true) ∧ Below w.heap.size w w' := by
  have hne : ((len : Int) != (len : Int)) = false := by simp
  go_enter Try.func33, Try.ntmps33
  go_wp2
  go_loopw [13, 5] (fun i _ wr => ∃ k : Nat, k ≤ len ∧ i = .int .i64 k ∧ Below w.heap.size w wr) (fun i _ _ => len - (intOf i).toNat)
  case atStart => exact ⟨0, Nat.zero_le _, rfl, Below.refl _ _⟩
  case round =>
    obtain ⟨k, hk, rfl, hb⟩ := hrel
    by_cases hlt : k < len
    · obtain ⟨b, off, rfl, hc⟩ := (h.below hb (Nat.le_refl _)).get hlt
      obtain ⟨b', off', rfl, hc'⟩ := (h'.below hb (Nat.le_refl _)).get hlt
      clear h h'
      generalize ss.getD k false = s at hc hc'
      have hi1 : (0 : Int) ≤ (k : Int) := by omega
      have hi2 : (k : Int) < (len : Int) := by omega
      have hq : (s != s) = false := by simp
      go_wp2
      go_quiet (fail)
      go_wp2
      go_roundw
      case rel => exact ⟨k + 1, by omega, by go_num, below_drewN hb _⟩
      case measure => simp [intOf]; omega
    · go_wp2
      go_ret
      exact ⟨rfl, hb⟩
end Go.Proofs.Qxb6600058a
