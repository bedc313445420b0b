/-
  WALK for seat b6600131a: FnSkipStringRefusesUnclosed (6).
-/
import Derived.Test.Qxb6600131aSkip
import Derived.Test.Qxb6600131aEnc
namespace Go.Proofs.Qxb6600131a
open Go.RowKit
open Plain

theorem wbound_u8 {n : Int} (h : (Lit.int .u8 n).wf = true) : 0 ≤ n ∧ n ≤ 255 := by
  simpa [Lit.wf, IntKind.min, IntKind.max, IntKind.bits, IntKind.signed] using h

/-- WHAT A WALK IS TOLD OF A SLICE OF INTEGERS THAT CAME IN. -/
structure Came (k : IntKind) (w : World) (a : Option Addr) (len cap : Nat) (T : List Int) : Prop where
  nil : a = none → len = 0 ∧ cap = 0
  cells : ∀ ad, a = some ad → ∀ j u, (T.map (Value.int k))[j]? = some u → w.cell? (ad.add j) = some u
  length : T.length = len
  small : len ≤ maxLen

theorem Came.at {k : IntKind} {w : World} {a : Option Addr} {len cap : Nat} {T : List Int} (h : Came k w a len cap T) (hp : 0 < len) :
    ∃ b off, a = some ⟨b, off, none⟩ ∧ b < w.heap.size ∧ ∀ j, j < len → w.cell? ⟨b, off + j, none⟩ = some (.int k (T.getD j 0)) := by
  cases ha : a with
  | none => have := (h.nil ha).1; omega
  | some ad =>
    have hc : ∀ j, j < len → w.cell? (ad.add j) = some (.int k (T.getD j 0)) := fun j hj => by
      refine h.cells ad ha j _ ?_
      have : j < T.length := by rw [h.length]; exact hj
      simp [this]
    obtain ⟨b, off, spot⟩ := ad
    have h0 := hc 0 hp
    have hspot : spot = none := by simpa [Addr.add] using World.cell?_spot h0
    subst hspot
    refine ⟨b, off, rfl, by simpa [Addr.add] using World.block_lt_of_cell? _ _ h0, fun j hj => ?_⟩
    have := hc j hj
    rwa [Addr.add_lit] at this

theorem enc_none (w : World) (g n cap : Nat) (a1 : Option Addr) (cap1 : Nat) :
    Calls Try.prog 18 #[.slice (some ⟨g, 0, none⟩) n cap, .slice a1 0 cap1] w fun e w' => e = .returned (.slice (some ⟨g, 0, none⟩) n cap) ∧ w' = w := by
  go_enter Try.func18, Try.ntmps18
  go_wp2
  refine wp_loop_rounds 1 ?_
  rw [rounds_succ]
  go_wp2
  go_ret
  exact ⟨rfl, rfl⟩

/-- zzAppendEnc over whatever slice came in. -/
theorem enc_came (w0 w : World) (B g n cap : Nat) (xs : List Int) (a : Option Addr) (len cap1 : Nat) (z : List Int) (hB0 : B = w0.heap.size) (hb : Below B w0 w)
    (hc : Came .u8 w0 a len cap1 z) (hsm : len ≤ 4194304) (hBg : B ≤ g)
    (hown : w.ownsRow B 5 1 (.slice (some ⟨g, 0, none⟩) n cap) n (xs.map (Value.int .u8))) (hcap : n + 2 * len ≤ cap) :
    Calls Try.prog 18 #[.slice (some ⟨g, 0, none⟩) n cap, .slice a len cap1] w fun e w' =>
      e = .returned (.slice (some ⟨g, 0, none⟩) (n + (enc z).length) cap) ∧
      w'.ownsRow B 5 1 (.slice (some ⟨g, 0, none⟩) (n + (enc z).length) cap) (n + (enc z).length) ((xs ++ enc z).map (Value.int .u8)) ∧ Below B w0 w' := by
  have hs := hb.size
  by_cases hp : 0 < len
  · obtain ⟨b, off, rfl, hbw, hcell⟩ := hc.at hp
    have hz := hc.length
    refine (enc_any w B g n cap xs b off len cap1 z (fun k hk => (hb.cell (p := ⟨b, off + k, none⟩) (by simpa [hB0] using hbw)).trans (hcell k hk)) (by omega) hsm (by omega) (by omega) hBg hown hcap).mono ?_
    rintro e w' ⟨he, ho, hb'⟩
    rw [List.take_of_length_le (by omega)] at he ho
    exact ⟨he, ho, hb.trans hb'⟩
  · obtain rfl : len = 0 := by omega
    obtain rfl : z = [] := List.eq_nil_of_length_eq_zero hc.length
    refine (enc_none w g n cap a cap1).mono ?_
    rintro e w' ⟨rfl, rfl⟩
    exact ⟨by simp [enc], by simpa [enc] using hown, hb⟩

theorem text_at {w : World} {B g n cap : Nat} {T : List Int} (h : w.ownsRow B 5 1 (.slice (some ⟨g, 0, none⟩) n cap) n (T.map (Value.int .u8))) (_hn : n ≤ T.length) (k : Nat) (hk : k < n) :
    w.cell? ⟨g, 0 + k, none⟩ = some (.int .u8 (T.getD k 0)) := by
  rw [Nat.zero_add, h.cellAt k (by omega)]
  simp [show k < T.length from by omega]

theorem ans_unclosed (pre l : List Int) (d : Bool) : ans (pre ++ [34] ++ enc l ++ (if d then [92] else [])) (pre.length + 1) = none :=
  ans_enc pre l _ (by cases d <;> simp)

set_option maxHeartbeats 1000000 in
theorem unclosed_walk (a0 : Option Addr) (len0 cap0 : Nat) (z0 : List Int) (a1 : Option Addr) (len1 cap1 : Nat) (z1 : List Int) (d : Bool) (w : World)
    (h0 : Came .u8 w a0 len0 cap0 z0) (h1 : Came .u8 w a1 len1 cap1 z1) :
    Calls Try.prog 6 #[.slice a0 len0 cap0, .slice a1 len1 cap1, .bool d] w fun e w' => e = .returned (.bool true) ∧ Below w.heap.size w w' := by
  obtain ⟨i0, hi0, hz0, hz1, hz2⟩ := info_parts Try.info5
  have hl0 := h0.small
  have hl1 := h1.small
  unfold maxLen at hl0 hl1
  go_enter Try.func6, Try.ntmps6
  go_wp2_with fail
  refine (bytes20 a0 len0 cap0 a1 len1 cap1 d w h0.small h1.small).mono ?_
  rintro e w' ⟨⟨b, rfl⟩, rfl⟩
  cases b
  · go_wp2_with fail
    go_ret
    exact ⟨rfl, Below.refl _ _⟩
  · by_cases hb0 : 262144 < len0
    · go_wp2_with fail
      go_ret
      exact ⟨rfl, Below.refl _ _⟩
    · by_cases hb1 : 262144 < len1
      · go_wp2_with fail
        go_ret
        exact ⟨rfl, Below.refl _ _⟩
      · have hfin := ans_unclosed z0 z1 d
        have hlz0 := h0.length
        have hle := enc_len z1
        have hlz1 := h1.length
        have HF : Hid (ans (z0 ++ [34] ++ enc z1 ++ (if d then [92] else [])) (len0 + 1) = none) := by rw [← hlz0]; exact hfin
        have HL0 : Hid (z0.length = len0) := hlz0
        have HL1 : Hid (z1.length = len1) := hlz1
        have hle' : (enc z1).length ≤ 2 * len1 := by omega
        clear hfin hlz0 hlz1 hle
        obtain ⟨B, HB⟩ : ∃ B, Hid (B = w'.heap.size) := ⟨_, rfl⟩
        go_wp2_with (first
          | (at_make; refine wpList_make_own _ rfl _ _ 22 rfl w'.heap.size 5 i0 (.int .u8 0) 1 Try.underlying22 hi0 hz0 hz1 _ _ _ (len0 + 2 * len1 + 2) rfl rfl (by omega) (by rw [hz2]; omega) (by unfold maxLen; omega) (Nat.le_refl _) ?_; intro w1 ho1 hg1)
          | (at_builtin; refine wpList_append_fits_any _ rfl (.tmp 31) (.tmp 32) 22 rfl w'.heap.size 5 i0 1 Try.underlying22 hi0 hz1 w'.heap.size 0 (len0 + 2 * len1 + 2) [] rfl ho1 a0 len0 cap0 (z0.map (Value.int .u8)) rfl (by simp [HL0.out]) h0.nil (fun ad had j u hu => hg1.cell (h0.cells ad had j u hu) (by simp)) (ints_oneCell .u8 z0) (by omega) ?_; intro w2 ho2 hg2; simp only [Nat.zero_add, List.nil_append] at ho2)
          | (at_builtin; refine wpList_append_fits _ rfl (.tmp 34) (.tmp 35) 22 rfl w'.heap.size 5 i0 1 Try.underlying22 hi0 hz1 w'.heap.size len0 (len0 + 2 * len1 + 2) _ rfl (ho2.alloc _) ⟨w2.heap.size, 0, none⟩ 1 1 [.int .u8 34] rfl rfl (cell_one_new _ _ _) (ints_oneCell .u8 [34]) (by omega) ?_; intro w3 ho3 hg3))
        have hs1 := hg1.size
        have hs2 := hg2.size
        have hb2 := ((Below.refl w'.heap.size w').grown hg1 (Nat.le_refl _) (by simp)).grown hg2 hs1 (by simp)
        have hb3 := (hb2.alloc (Nat.le_trans hs1 hs2) (.cells #[.int .u8 34] 5)).grown hg3 (by simp; omega) (by simp)
        refine (enc_came w' w3 w'.heap.size w'.heap.size (len0 + 1) (len0 + 2 * len1 + 2) (z0 ++ [34]) a1 len1 cap1 z1 rfl hb3 h1 (by omega) (Nat.le_refl _) (by simpa using ho3) (by omega)).mono ?_
        rintro e w4 ⟨rfl, ho4, hb4⟩
        clear ho1 hg1 ho2 hg2 ho3 hg3 hb2 hb3 hs1 hs2
        have hs4 := hb4.size
        generalize enc z1 = E at *
        cases d
        · go_wp2_with fail
          refine (zzskip_any w4 w'.heap.size 0 (len0 + 1 + E.length) (len0 + 2 * len1 + 2) (z0 ++ [34] ++ E) len0 (by simp [HL0.out]; omega) (fun k hk => text_at ho4 (by simp [HL0.out]; omega) k hk) (by omega) (by omega)).mono ?_
          rintro e w5 ⟨hb5, (⟨j, hj, rfl⟩ | ⟨hj, rfl⟩)⟩
          · have := HF.out
            simp only [Bool.false_eq_true, if_false, List.append_nil] at this
            rw [this] at hj
            cases hj
          · go_wp2
            go_ret
            exact ⟨by simp, hb4.trans (hb5.mono hs4)⟩
        · go_wp2_with (at_builtin; refine wpList_append_fits _ rfl (.tmp 41) (.tmp 42) 22 rfl w'.heap.size 5 i0 1 Try.underlying22 hi0 hz1 w'.heap.size (len0 + 1 + E.length) (len0 + 2 * len1 + 2) _ rfl (ho4.alloc _) ⟨w4.heap.size, 0, none⟩ 1 1 [.int .u8 92] rfl rfl (cell_one_new _ _ _) (ints_oneCell .u8 [92]) (by omega) ?_; intro w5 ho5 hg5)
          have hb5 := (hb4.alloc hs4 (.cells #[.int .u8 92] 5)).grown hg5 (by simp; omega) (by simp)
          have hs5 := hb5.size
          refine (zzskip_any w5 w'.heap.size 0 (len0 + 1 + E.length + 1) (len0 + 2 * len1 + 2) (z0 ++ [34] ++ E ++ [92]) len0 (by simp [HL0.out]; omega) (fun k hk => text_at (by simpa using ho5) (by simp [HL0.out]; omega) k hk) (by omega) (by omega)).mono ?_
          rintro e w6 ⟨hb6, (⟨j, hj, rfl⟩ | ⟨hj, rfl⟩)⟩
          · have := HF.out
            simp only [if_true] at this
            rw [this] at hj
            cases hj
          · go_wp2
            go_ret
            exact ⟨by simp, hb5.trans (hb6.mono hs5)⟩
end Go.Proofs.Qxb6600131a
