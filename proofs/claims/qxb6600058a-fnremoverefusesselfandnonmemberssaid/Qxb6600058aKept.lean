/-
  WALK for seat b6600058a: zzMarksKept (35), no one gone: four loops alike, written by a small program of mine.
-/
import Derived.Test.Qxb6600058aMarks
namespace Go.Proofs.Qxb6600058a
open Go.RowKit

set_option maxRecDepth 100000 in
set_option maxHeartbeats 4000000 in
theorem kept35 (w : World) (p : Nat) (g1 g2 : ByteArray) (mj mu me mt : Nat) (J U E T : List ByteArray)
    (a1 : Option Addr) (len1 cap1 : Nat) (s1 : HasS w a1 len1 cap1 J) (l1 : len1 ≤ 65536) (a2 : Option Addr) (len2 cap2 : Nat) (s2 : HasS w a2 len2 cap2 U) (l2 : len2 ≤ 65536)
    (a3 : Option Addr) (len3 cap3 : Nat) (s3 : HasS w a3 len3 cap3 E) (l3 : len3 ≤ 65536) (a4 : Option Addr) (len4 cap4 : Nat) (s4 : HasS w a4 len4 cap4 T) (l4 : len4 ≤ 65536)
    (c4 : w.cell? ⟨p, 4, none⟩ = some (.map (some mj))) (c8 : w.cell? ⟨p, 8, none⟩ = some (.map (some mu))) (c9 : w.cell? ⟨p, 9, none⟩ = some (.map (some me))) (c10 : w.cell? ⟨p, 10, none⟩ = some (.map (some mt)))
    (h : Sets w mj mu me mt J U E T) :
    Calls Try.prog 35 #[.pointer (some ⟨p, 0, none⟩), .slice a1 len1 cap1, .slice a2 len2 cap2, .slice a3 len3 cap3, .slice a4 len4 cap4, .string g1, .string g2, .bool false] w fun e w' => e = .returned (.bool true) ∧ Below w.heap.size w w' := by
  have hp : p < w.heap.size := World.block_lt_of_cell? _ _ c4
  have C4 : Hid (w.cell? ⟨p, 4, none⟩ = some (.map (some mj))) := c4
  have C8 : Hid (w.cell? ⟨p, 8, none⟩ = some (.map (some mu))) := c8
  have C9 : Hid (w.cell? ⟨p, 9, none⟩ = some (.map (some me))) := c9
  have C10 : Hid (w.cell? ⟨p, 10, none⟩ = some (.map (some mt))) := c10
  clear c4 c8 c9 c10
  go_enter Try.func35, Try.ntmps35
  go_wp2
  go_loopw [43, 18] (fun i _ wr => ∃ k : Nat, k ≤ len1 ∧ i = .int .i64 k ∧ Below w.heap.size w wr) (fun i _ _ => len1 - (intOf i).toNat)
  case atStart => exact ⟨0, Nat.zero_le _, rfl, Below.refl _ _⟩
  obtain ⟨k, hk, rfl, hb1⟩ := hrel
  obtain ⟨wr1, rfl⟩ : ∃ wx : World, wx = wr := ⟨_, rfl⟩
  by_cases hlt : k < len1
  · obtain ⟨b, off, rfl, s, -, hm, hsz, hc⟩ := (s1.below hb1 (Nat.le_refl _)).get hlt
    have HM : Hid (s ∈ J) := hm
    clear hm
    go_wp2_with fail
    refine (marks53 wr1 p s mj mu me mt J U E T hsz ((hb1.cell (p := ⟨p, 4, none⟩) hp).trans C4.out) ((hb1.cell (p := ⟨p, 8, none⟩) hp).trans C8.out) ((hb1.cell (p := ⟨p, 9, none⟩) hp).trans C9.out) ((hb1.cell (p := ⟨p, 10, none⟩) hp).trans C10.out) (h.below hb1 (Nat.le_refl _))).mono ?_
    rintro e w1 ⟨hbw, bj, bu, be, bt, rfl, H⟩
    obtain rfl : bj = true := H.out.1 HM.out
    go_wp2
    go_roundw
    case rel => exact ⟨k + 1, by omega, by go_num, hb1.trans (hbw.mono hb1.size)⟩
    case measure => simp [intOf]; omega
  -- on to the next list
  go_wp2
  go_loopw [71, 24] (fun i _ wr => ∃ k : Nat, k ≤ len2 ∧ i = .int .i64 k ∧ Below w.heap.size w wr) (fun i _ _ => len2 - (intOf i).toNat)
  case atStart => exact ⟨0, Nat.zero_le _, rfl, hb1⟩
  obtain ⟨k, hk, rfl, hb2⟩ := hrel
  obtain ⟨wr2, rfl⟩ : ∃ wx : World, wx = wr := ⟨_, rfl⟩
  by_cases hlt : k < len2
  · obtain ⟨b, off, rfl, s, -, hm, hsz, hc⟩ := (s2.below hb2 (Nat.le_refl _)).get hlt
    have HM : Hid (s ∈ U) := hm
    clear hm
    go_wp2_with fail
    refine (marks53 wr2 p s mj mu me mt J U E T hsz ((hb2.cell (p := ⟨p, 4, none⟩) hp).trans C4.out) ((hb2.cell (p := ⟨p, 8, none⟩) hp).trans C8.out) ((hb2.cell (p := ⟨p, 9, none⟩) hp).trans C9.out) ((hb2.cell (p := ⟨p, 10, none⟩) hp).trans C10.out) (h.below hb2 (Nat.le_refl _))).mono ?_
    rintro e w1 ⟨hbw, bj, bu, be, bt, rfl, H⟩
    obtain rfl : bu = true := H.out.2.1 HM.out
    go_wp2
    go_roundw
    case rel => exact ⟨k + 1, by omega, by go_num, hb2.trans (hbw.mono hb2.size)⟩
    case measure => simp [intOf]; omega
  -- on to the next list
  go_wp2
  go_loopw [99, 30] (fun i _ wr => ∃ k : Nat, k ≤ len3 ∧ i = .int .i64 k ∧ Below w.heap.size w wr) (fun i _ _ => len3 - (intOf i).toNat)
  case atStart => exact ⟨0, Nat.zero_le _, rfl, hb2⟩
  obtain ⟨k, hk, rfl, hb3⟩ := hrel
  obtain ⟨wr3, rfl⟩ : ∃ wx : World, wx = wr := ⟨_, rfl⟩
  by_cases hlt : k < len3
  · obtain ⟨b, off, rfl, s, -, hm, hsz, hc⟩ := (s3.below hb3 (Nat.le_refl _)).get hlt
    have HM : Hid (s ∈ E) := hm
    clear hm
    go_wp2_with fail
    refine (marks53 wr3 p s mj mu me mt J U E T hsz ((hb3.cell (p := ⟨p, 4, none⟩) hp).trans C4.out) ((hb3.cell (p := ⟨p, 8, none⟩) hp).trans C8.out) ((hb3.cell (p := ⟨p, 9, none⟩) hp).trans C9.out) ((hb3.cell (p := ⟨p, 10, none⟩) hp).trans C10.out) (h.below hb3 (Nat.le_refl _))).mono ?_
    rintro e w1 ⟨hbw, bj, bu, be, bt, rfl, H⟩
    obtain rfl : be = true := H.out.2.2.1 HM.out
    go_wp2
    go_roundw
    case rel => exact ⟨k + 1, by omega, by go_num, hb3.trans (hbw.mono hb3.size)⟩
    case measure => simp [intOf]; omega
  -- on to the next list
  go_wp2
  go_loopw [127, 36] (fun i _ wr => ∃ k : Nat, k ≤ len4 ∧ i = .int .i64 k ∧ Below w.heap.size w wr) (fun i _ _ => len4 - (intOf i).toNat)
  case atStart => exact ⟨0, Nat.zero_le _, rfl, hb3⟩
  obtain ⟨k, hk, rfl, hb4⟩ := hrel
  obtain ⟨wr4, rfl⟩ : ∃ wx : World, wx = wr := ⟨_, rfl⟩
  by_cases hlt : k < len4
  · obtain ⟨b, off, rfl, s, -, hm, hsz, hc⟩ := (s4.below hb4 (Nat.le_refl _)).get hlt
    have HM : Hid (s ∈ T) := hm
    clear hm
    go_wp2_with fail
    refine (marks53 wr4 p s mj mu me mt J U E T hsz ((hb4.cell (p := ⟨p, 4, none⟩) hp).trans C4.out) ((hb4.cell (p := ⟨p, 8, none⟩) hp).trans C8.out) ((hb4.cell (p := ⟨p, 9, none⟩) hp).trans C9.out) ((hb4.cell (p := ⟨p, 10, none⟩) hp).trans C10.out) (h.below hb4 (Nat.le_refl _))).mono ?_
    rintro e w1 ⟨hbw, bj, bu, be, bt, rfl, H⟩
    obtain rfl : bt = true := H.out.2.2.2 HM.out
    go_wp2
    go_roundw
    case rel => exact ⟨k + 1, by omega, by go_num, hb4.trans (hbw.mono hb4.size)⟩
    case measure => simp [intOf]; omega
  -- on to the next list
  go_wp2
  go_ret
  exact ⟨rfl, hb4⟩
end Go.Proofs.Qxb6600058a
