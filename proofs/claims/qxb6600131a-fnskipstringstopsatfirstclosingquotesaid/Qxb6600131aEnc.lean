/-
  WALKS for seat b6600131a: zzAppendEnc (18), the two bounds (20, 21).
-/
import Derived.Test.Qxb6600131aProg
import Derived.Test.Qxb6600131aPlain
import Derived.WalkKit
import Derived.WalkSpells
import Derived.Maps.AppendAt
namespace Go.Proofs.Qxb6600131a
open Go.RowKit
open Plain

theorem Try.info5 : (Try.prog.info? 5).map (fun i => (i.zero, i.size, i.bytes)) = some (some (.int .u8 0), 1, 1) := by kernel_rfl

theorem take_snoc' (z : List Int) (k : Nat) (h : k < z.length) : z.take (k + 1) = z.take k ++ [z.getD k 0] := by
  rw [List.take_succ_eq_append_getElem h, List.getD_eq_getElem?_getD, List.getElem?_eq_getElem h]; rfl

theorem enc_take (z : List Int) (k : Nat) (h : k < z.length) (hb : z.getD k 0 = 34 ∨ z.getD k 0 = 92 ∨ z.getD k 0 < 32) : enc (z.take (k + 1)) = enc (z.take k) ++ [92] ++ [z.getD k 0] := by
  rw [take_snoc' z k h, enc_snoc, if_pos hb]; simp
theorem enc_take' (z : List Int) (k : Nat) (h : k < z.length) (hb : ¬ (z.getD k 0 = 34 ∨ z.getD k 0 = 92 ∨ z.getD k 0 < 32)) : enc (z.take (k + 1)) = enc (z.take k) ++ [z.getD k 0] := by
  rw [take_snoc' z k h, enc_snoc, if_neg hb]

set_option maxHeartbeats 800000 in
theorem enc_any (w : World) (B g n cap : Nat) (xs : List Int) (b off len cap1 : Nat) (z : List Int)
    (hcell : ∀ k, k < len → w.cell? ⟨b, off + k, none⟩ = some (.int .u8 (z.getD k 0))) (hz : len ≤ z.length) (hsm : len ≤ 4194304) (hbB : b < B) (hB : B ≤ w.heap.size) (hBg : B ≤ g)
    (hown : w.ownsRow B 5 1 (.slice (some ⟨g, 0, none⟩) n cap) n (xs.map (Value.int .u8))) (hcap : n + 2 * len ≤ cap) :
    Calls Try.prog 18 #[.slice (some ⟨g, 0, none⟩) n cap, .slice (some ⟨b, off, none⟩) len cap1] w fun e w' =>
      e = .returned (.slice (some ⟨g, 0, none⟩) (n + (enc (z.take len)).length) cap) ∧
      w'.ownsRow B 5 1 (.slice (some ⟨g, 0, none⟩) (n + (enc (z.take len)).length) cap) (n + (enc (z.take len)).length) ((xs ++ enc (z.take len)).map (Value.int .u8)) ∧ Below B w w' := by
  obtain ⟨i0, hi0, hz0, hz1, hz2⟩ := info_parts Try.info5
  go_enter Try.func18, Try.ntmps18
  go_wp2
  go_loopw [0, 5] (fun v i wr => ∃ k m : Nat, k ≤ len ∧ i = .int .i64 k ∧ Hid (m = (enc (z.take k)).length) ∧ m ≤ 2 * k ∧ v = .slice (some ⟨g, 0, none⟩) (n + m) cap ∧
      wr.ownsRow B 5 1 (.slice (some ⟨g, 0, none⟩) (n + m) cap) (n + m) ((xs ++ enc (z.take k)).map (Value.int .u8)) ∧ Below B w wr) (fun _ i _ => len - (intOf i).toNat)
  case atStart => exact ⟨0, 0, Nat.zero_le _, rfl, rfl, by omega, rfl, by simpa [enc] using hown, Below.refl _ _⟩
  case round =>
    obtain ⟨k, m, hk, rfl, HM, hm, rfl, ho, hnx⟩ := hrel
    by_cases hlt : k < len
    · have hc : wr.cell? ⟨b, off + k, none⟩ = some (.int .u8 (z.getD k 0)) := (hnx.cell (p := ⟨b, off + k, none⟩) hbB).trans (hcell k hlt)
      clear hcell hown
      have hkz : k < z.length := by omega
      have e1 := enc_take z k hkz
      have e2 := enc_take' z k hkz
      generalize z.getD k 0 = c at hc e1 e2
      have hs0 : B ≤ wr.heap.size := Nat.le_trans hB hnx.size
      by_cases hsp : c = 34 ∨ c = 92 ∨ c < 32
      · have HE : Hid (enc (z.take (k + 1)) = enc (z.take k) ++ [92] ++ [c]) := e1 hsp
        clear e1 e2
        have tests : ((c == 34) = true) ∨ ((c == 34) = false ∧ (c == 92) = true) ∨ ((c == 34) = false ∧ (c == 92) = false ∧ c < 32) := by
          rcases hsp with h | h | h
          · exact .inl (by simp [h])
          · exact .inr (.inl ⟨by simp [h], by simp [h]⟩)
          · by_cases h3 : c = 34
            · exact .inl (by simp [h3])
            · by_cases h4 : c = 92
              · exact .inr (.inl ⟨by simp [h3], by simp [h4]⟩)
              · exact .inr (.inr ⟨by simp [h3], by simp [h4], h⟩)
        clear hsp
        rcases tests with t1 | ⟨t1, t2⟩ | ⟨t1, t2, t3⟩
        all_goals
          go_wp2_with (first | (at_builtin; refine wpList_append_fits _ rfl (.tmp 27) (.tmp 28) 22 rfl B 5 i0 1 Try.underlying22 hi0 hz1 g (n + m) cap _ rfl (ho.alloc _) ⟨wr.heap.size, 0, none⟩ 1 1 [.int .u8 92] rfl rfl (cell_one_new _ _ _) (ints_oneCell .u8 [92]) (by omega) ?_; intro w1 ho1 hg1) | (at_builtin; refine wpList_append_fits _ rfl (.tmp 30) (.tmp 32) 22 rfl B 5 i0 1 Try.underlying22 hi0 hz1 g (n + m + 1) cap _ rfl (ho1.alloc _) ⟨w1.heap.size, 0, none⟩ 1 1 [.int .u8 c] rfl rfl (cell_one_new _ _ _) (ints_oneCell .u8 [c]) (by omega) ?_; intro w2 ho2 hg2))
          go_roundw
          case rel =>
            have hb1 := (hnx.alloc hs0 (.cells #[.int .u8 92] 5)).grown hg1 (by simp; omega) (by simp; omega)
            exact ⟨k + 1, m + 2, by omega, by go_num, by show _ = _; rw [HE.out]; simp [← HM.out], by omega, by first | rfl | go_num, by rw [HE.out]; simpa [Nat.add_assoc] using ho2, (hb1.alloc (by have := hg1.size; simp at this; omega) _).grown hg2 (by have := hg1.size; simp at this ⊢; omega) (by simp; omega)⟩
          case measure => simp [intOf]; omega
      · have HE : Hid (enc (z.take (k + 1)) = enc (z.take k) ++ [c]) := e2 hsp
        clear e1 e2
        have t1 : (c == 34) = false := by simp; omega
        have t2 : (c == 92) = false := by simp; omega
        have t3 : ¬ c < 32 := by omega
        go_wp2_with ((at_builtin; refine wpList_append_fits _ rfl (.tmp 30) (.tmp 32) 22 rfl B 5 i0 1 Try.underlying22 hi0 hz1 g (n + m) cap _ rfl (ho.alloc _) ⟨wr.heap.size, 0, none⟩ 1 1 [.int .u8 c] rfl rfl (cell_one_new _ _ _) (ints_oneCell .u8 [c]) (by omega) ?_; intro w1 ho1 hg1))
        go_roundw
        case rel => exact ⟨k + 1, m + 1, by omega, by go_num, by show _ = _; rw [HE.out]; simp [← HM.out], by omega, by first | rfl | go_num, by rw [HE.out]; simpa [Nat.add_assoc] using ho1, (hnx.alloc hs0 _).grown hg1 (by simp; omega) (by simp; omega)⟩
        case measure => simp [intOf]; omega
    · obtain rfl : k = len := by omega
      have HM' := HM.out
      go_wp2
      go_ret
      rw [← HM']
      exact ⟨rfl, ho, hnx⟩

theorem bytes20 (a0 : Option Addr) (len0 cap0 : Nat) (a1 : Option Addr) (len1 cap1 : Nat) (d : Bool) (w : World) (h0 : len0 ≤ maxLen) (h1 : len1 ≤ maxLen) :
    Calls Try.prog 20 #[.slice a0 len0 cap0, .slice a1 len1 cap1, .bool d] w fun e w' => (∃ b, e = .returned (.bool b)) ∧ w' = w := by
  unfold maxLen at h0 h1
  go_enter Try.func20, Try.ntmps20
  go_wp2
  all_goals (go_ret; exact ⟨⟨_, rfl⟩, rfl⟩)

theorem bytes21 (a0 : Option Addr) (len0 cap0 : Nat) (i : Int) (w : World) (h0 : len0 ≤ maxLen) :
    Calls Try.prog 21 #[.slice a0 len0 cap0, .int .i64 i] w fun e w' => (∃ b, e = .returned (.bool b)) ∧ w' = w := by
  unfold maxLen at h0
  go_enter Try.func21, Try.ntmps21
  go_wp2
  all_goals (go_ret; exact ⟨⟨_, rfl⟩, rfl⟩)
end Go.Proofs.Qxb6600131a
