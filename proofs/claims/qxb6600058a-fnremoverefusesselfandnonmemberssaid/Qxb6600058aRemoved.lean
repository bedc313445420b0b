/-
  WALKS for seat b6600058a: ZZRemovedAddrs (32), ZZRemovedDowns (34).
-/
import Derived.Test.Qxb6600058aClone
import Derived.Maps.AppendAt
namespace Go.Proofs.Qxb6600058a
open Go.RowKit

/-- A SLICE OF EXITS, two cells each. -/
structure HasE (w : World) (a : Option Addr) (len cap : Nat) (ex : List (ByteArray × Bool)) : Prop where
  length : ex.length = len
  at' : ∀ k, k < len → ∃ g, a = some ⟨g, 0, none⟩ ∧ w.cell? ⟨g, k * 2, none⟩ = some (.string (ex.getD k (ByteArray.empty, false)).1) ∧ w.cell? ⟨g, k * 2 + 1, none⟩ = some (.bool (ex.getD k (ByteArray.empty, false)).2)
  strs : ∀ x ∈ ex, x.1.size ≤ maxLen

theorem HasE.below {w w' : World} {B : Nat} {a : Option Addr} {len cap : Nat} {ex : List (ByteArray × Bool)} (h : HasE w a len cap ex) (hb : Below B w w') (hB : w.heap.size ≤ B) : HasE w' a len cap ex :=
  ⟨h.length, fun k hk => by
    obtain ⟨g, ha, h1, h2⟩ := h.at' k hk
    have hg : g < B := Nat.lt_of_lt_of_le (World.block_lt_of_cell? _ _ h1) hB
    exact ⟨g, ha, (hb.cell (p := ⟨g, k * 2, none⟩) hg).trans h1, (hb.cell (p := ⟨g, k * 2 + 1, none⟩) hg).trans h2⟩, h.strs⟩

theorem getD_map_fst (ex : List (ByteArray × Bool)) (k : Nat) (h : k < ex.length) : (ex.map Prod.fst).take (k + 1) = (ex.map Prod.fst).take k ++ [(ex.getD k (ByteArray.empty, false)).1] := by
  rw [List.take_succ_eq_append_getElem (by simpa using h)]
  simp [h]

set_option maxHeartbeats 800000 in
theorem addrs32 (w : World) (p : Nat) (a : Option Addr) (len cap : Nat) (ex : List (ByteArray × Bool)) (c3 : w.cell? ⟨p, 3, none⟩ = some (.slice a len cap)) (h : HasE w a len cap ex) (hsm : len ≤ 65536) :
    Calls Try.prog 32 #[.pointer (some ⟨p, 0, none⟩)] w fun e w' => ∃ a' cap', e = .returned (.slice a' len cap') ∧ HasS w' a' len cap' (ex.map Prod.fst) ∧ Below w.heap.size w w' := by
  obtain ⟨i0, hi0, hz0, hz1, hz2⟩ := info_parts Try.info9
  have hp : p < w.heap.size := World.block_lt_of_cell? _ _ c3
  go_enter Try.func32, Try.ntmps32
  go_wp2_with (at_make; refine wpList_make_own _ rfl _ _ 35 rfl w.heap.size 9 i0 (.string ByteArray.empty) 1 Try.underlying35 hi0 hz0 hz1 _ _ _ len rfl rfl rfl (by rw [hz2]; omega) (by unfold maxLen; omega) (Nat.le_refl _) ?_; intro w1 ho1 hg1; have hb1 := (Below.refl w.heap.size w).grown hg1 (Nat.le_refl _) (by simp); have c3' := (hb1.cell (p := ⟨p, 3, none⟩) hp).trans c3)
  go_loopw [3, 17] (fun v i wr => ∃ k : Nat, k ≤ len ∧ i = .int .i64 k ∧ v = .slice (some ⟨w.heap.size, 0, none⟩) k len ∧
      wr.ownsRow w.heap.size 9 1 (.slice (some ⟨w.heap.size, 0, none⟩) k len) k (((ex.map Prod.fst).take k).map Value.string) ∧ Below w.heap.size w wr) (fun _ i _ => len - (intOf i).toNat)
  case atStart => exact ⟨0, Nat.zero_le _, rfl, rfl, by simpa using ho1, hb1⟩
  case round =>
    obtain ⟨k, hk, rfl, rfl, ho, hb⟩ := hrel
    have HL : Hid (ex.length = len) := h.length
    by_cases hlt : k < len
    · obtain ⟨g, rfl, hc1, hc2⟩ := (h.below hb (Nat.le_refl _)).at' k hlt
      have HT : Hid _ := getD_map_fst ex k (by rw [HL.out]; exact hlt)
      generalize ex.getD k (ByteArray.empty, false) = x at hc1 hc2 HT
      obtain ⟨s, d⟩ := x
      simp only at hc1 hc2
      clear c3' c3 ho1 hg1
      have hs0 : w.heap.size ≤ wr.heap.size := hb.size
      have hnew : ∀ j u, [Value.string s][j]? = some u → ((wr.alloc (.cells #[.string s, .bool d] 75)).alloc (.cells #[.string s] 9)).cell? ((⟨wr.heap.size + 1, 0, none⟩ : Addr).add j) = some u := by
        have := cell_one_new (wr.alloc (.cells #[.string s, .bool d] 75)) (.string s) 9
        simpa only [World.size_alloc] using this
      have HN : Hid _ := hnew
      clear hnew
      go_wp2_with (at_builtin; refine wpList_append_fits _ rfl (.tmp 21) (.tmp 24) 35 rfl w.heap.size 9 i0 1 Try.underlying35 hi0 hz1 w.heap.size k len _ rfl ((ho.alloc _).alloc _) ⟨wr.heap.size + 1, 0, none⟩ 1 1 [.string s] rfl rfl HN.out (strings_oneCell [s]) (by omega) ?_; intro w2 ho2 hg2)
      go_roundw
      case rel =>
        refine ⟨k + 1, by omega, by go_num, rfl, ?_, ?_⟩
        · rw [HT.out, List.map_append]
          exact ho2
        · exact ((hb.alloc hs0 _).alloc (by simp; omega) _).grown hg2 (by simp; omega) (by simp)
      case measure => simp [intOf]; omega
    · obtain rfl : k = len := by omega
      go_wp2
      go_ret
      have hr := Has.of_row (owns_full ho)
      simp only [List.length_map, List.length_take, HL.out, Nat.min_self] at hr
      rw [List.take_of_length_le (by simp [HL.out])] at hr
      exact ⟨_, _, rfl, ⟨hr, fun x hx => by
        obtain ⟨y, hy, rfl⟩ := List.mem_map.1 hx
        exact h.strs y hy⟩, hb⟩
theorem getD_map_snd (ex : List (ByteArray × Bool)) (k : Nat) (h : k < ex.length) : (ex.map Prod.snd).take (k + 1) = (ex.map Prod.snd).take k ++ [(ex.getD k (ByteArray.empty, false)).2] := by
  rw [List.take_succ_eq_append_getElem (by simpa using h)]
  simp [h]

set_option maxHeartbeats 800000 in
theorem downs34 (w : World) (p : Nat) (a : Option Addr) (len cap : Nat) (ex : List (ByteArray × Bool)) (c3 : w.cell? ⟨p, 3, none⟩ = some (.slice a len cap)) (h : HasE w a len cap ex) (hsm : len ≤ 65536) :
    Calls Try.prog 34 #[.pointer (some ⟨p, 0, none⟩)] w fun e w' => ∃ a' cap', e = .returned (.slice a' len cap') ∧ HasB w' a' len cap' (ex.map Prod.snd) ∧ Below w.heap.size w w' := by
  obtain ⟨i0, hi0, hz0, hz1, hz2⟩ := info_parts Try.info4
  have hp : p < w.heap.size := World.block_lt_of_cell? _ _ c3
  go_enter Try.func34, Try.ntmps34
  go_wp2_with (at_make; refine wpList_make_own _ rfl _ _ 36 rfl w.heap.size 4 i0 (.bool false) 1 Try.underlying36 hi0 hz0 hz1 _ _ _ len rfl rfl rfl (by rw [hz2]; omega) (by unfold maxLen; omega) (Nat.le_refl _) ?_; intro w1 ho1 hg1; have hb1 := (Below.refl w.heap.size w).grown hg1 (Nat.le_refl _) (by simp); have c3' := (hb1.cell (p := ⟨p, 3, none⟩) hp).trans c3)
  go_loopw [3, 17] (fun v i wr => ∃ k : Nat, k ≤ len ∧ i = .int .i64 k ∧ v = .slice (some ⟨w.heap.size, 0, none⟩) k len ∧
      wr.ownsRow w.heap.size 4 1 (.slice (some ⟨w.heap.size, 0, none⟩) k len) k (((ex.map Prod.snd).take k).map Value.bool) ∧ Below w.heap.size w wr) (fun _ i _ => len - (intOf i).toNat)
  case atStart => exact ⟨0, Nat.zero_le _, rfl, rfl, by simpa using ho1, hb1⟩
  case round =>
    obtain ⟨k, hk, rfl, rfl, ho, hb⟩ := hrel
    have HL : Hid (ex.length = len) := h.length
    by_cases hlt : k < len
    · obtain ⟨g, rfl, hc1, hc2⟩ := (h.below hb (Nat.le_refl _)).at' k hlt
      have HT : Hid _ := getD_map_snd ex k (by rw [HL.out]; exact hlt)
      generalize ex.getD k (ByteArray.empty, false) = x at hc1 hc2 HT
      obtain ⟨s, d⟩ := x
      simp only at hc1 hc2
      clear c3' c3 ho1 hg1
      have hs0 : w.heap.size ≤ wr.heap.size := hb.size
      have hnew : ∀ j u, [Value.bool d][j]? = some u → ((wr.alloc (.cells #[.string s, .bool d] 75)).alloc (.cells #[.bool d] 4)).cell? ((⟨wr.heap.size + 1, 0, none⟩ : Addr).add j) = some u := by
        have := cell_one_new (wr.alloc (.cells #[.string s, .bool d] 75)) (.bool d) 4
        simpa only [World.size_alloc] using this
      have HN : Hid _ := hnew
      clear hnew
      go_wp2_with (at_builtin; refine wpList_append_fits _ rfl (.tmp 21) (.tmp 24) 36 rfl w.heap.size 4 i0 1 Try.underlying36 hi0 hz1 w.heap.size k len _ rfl ((ho.alloc _).alloc _) ⟨wr.heap.size + 1, 0, none⟩ 1 1 [.bool d] rfl rfl HN.out (bools_oneCell [d]) (by omega) ?_; intro w2 ho2 hg2)
      go_roundw
      case rel =>
        refine ⟨k + 1, by omega, by go_num, rfl, ?_, ?_⟩
        · rw [HT.out, List.map_append]
          exact ho2
        · exact ((hb.alloc hs0 _).alloc (by simp; omega) _).grown hg2 (by simp; omega) (by simp)
      case measure => simp [intOf]; omega
    · obtain rfl : k = len := by omega
      go_wp2
      go_ret
      have hr := Has.of_row (owns_full ho)
      simp only [List.length_map, List.length_take, HL.out, Nat.min_self] at hr
      rw [List.take_of_length_le (by simp [HL.out])] at hr
      exact ⟨_, _, rfl, hr, hb⟩
end Go.Proofs.Qxb6600058a
