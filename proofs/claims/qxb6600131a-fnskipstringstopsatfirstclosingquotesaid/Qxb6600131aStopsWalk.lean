/-
  WALK for seat b6600131a: zzClone (16), FnSkipStringStopsAtFirstClosingQuote (7).
-/
import Derived.Test.Qxb6600131aUnclosedWalk
import Derived.Laws.CopyOwn
namespace Go.Proofs.Qxb6600131a
open Go.RowKit
open Plain

theorem owns_full {w : World} {base : Nat} {e : TypeId} {g n : Nat} {xs : List Value} (h : w.ownsRow base e 1 (.slice (some ⟨g, 0, none⟩) n n) n xs) : w.heap[g]? = some (.cells xs.toArray e (0, 0)) := by
  obtain ⟨hl, h2⟩ := h
  rcases h2 with ⟨h2, _⟩ | ⟨g', cap, cur, hv, _, hh, _, _, hs, ht⟩
  · cases h2
  · cases hv
    rw [hh]
    congr 2
    apply Array.ext'
    rw [← ht, List.take_of_length_le (by simp [hs])]

theorem splice_all {α : Type} (Z X : List α) (h : Z.length = X.length) : splice Z 0 X = X := by
  simp [splice, h]

set_option maxHeartbeats 400000 in
/-- zzClone of a slice with an element: a new block that holds the same bytes. -/
theorem clone_any (w : World) (b off len cap : Nat) (T : List Int) (hlen : T.length = len) (hsm : len ≤ 4194304) 
    (hcell : ∀ j u, (T.map (Value.int .u8))[j]? = some u → w.cell? ((⟨b, off, none⟩ : Addr).add j) = some u) :
    Calls Try.prog 16 #[.slice (some ⟨b, off, none⟩) len cap] w fun e w' =>
      ∃ g, e = .returned (.slice (some ⟨g, 0, none⟩) len len) ∧ w'.heap[g]? = some (.cells (T.map (Value.int .u8)).toArray 5 (0, 0)) ∧ Below w.heap.size w w' := by
  obtain ⟨i0, hi0, hz0, hz1, hz2⟩ := info_parts Try.info5
  have hne := fun w => Lib.run_eql_slice_nil (P := Try.prog) w 22 5 (some ⟨b, off, none⟩) len cap 0 0 Try.underlying22
  have hsz : (Try.prog.info? 5).map (·.size) = some 1 := by rw [hi0]; simp [hz1]
  have HL : Hid (T.length = len) := hlen
  clear hlen
  go_enter Try.func16, Try.ntmps16
  go_wp2_with (first
    | (at_make; refine wpList_make_full _ rfl _ _ 22 rfl w.heap.size 5 i0 (.int .u8 0) 1 Try.underlying22 hi0 hz0 hz1 _ _ _ _ len rfl rfl rfl rfl (by rw [hz2]; omega) (by unfold maxLen; omega) (Nat.le_refl _) ?_; intro w1 ho1 hg1; have hH1 := owns_full ho1; have hb1 := (Below.refl w.heap.size w).grown hg1 (Nat.le_refl _) (by simp); have hl1 := ho1.1; clear ho1)
    | (refine wpList_copy_splice rfl (.tmp 9) (.tmp 10) 22 22 rfl 5 Try.underlying22 hsz _ _ _ _ _ _ rfl rfl w.heap.size 0 _ 5 hH1 (T.map (Value.int .u8)) (by simp [HL.out]) (fun _ => ⟨rfl, _, rfl, fun j v hv => hg1.cell (hcell j v hv) (by simp)⟩) (by rw [hl1]; simp [HL.out]) (ints_oneCell .u8 T) w.heap.size w hb1 (Nat.le_refl _) ?_; intro w2 HG2 hb2))
  go_ret
  refine ⟨w.heap.size, rfl, ?_, hb2⟩
  have := HG2.out
  rwa [splice_all _ _ (by simpa [HL.out] using hl1)] at this

theorem row_at {w : World} {g len : Nat} {T : List Int} (h : w.heap[g]? = some (.cells (T.map (Value.int .u8)).toArray 5 (0, 0))) (_hl : len ≤ T.length) (k : Nat) (hk : k < len) :
    w.cell? ⟨g, 0 + k, none⟩ = some (.int .u8 ((T.take len).getD k 0)) := by
  rw [Nat.zero_add]
  simp [World.cell?, h, show k < T.length from by omega, hk]

set_option maxHeartbeats 1000000 in
theorem stops_walk (a0 : Option Addr) (len cap : Nat) (T : List Int) (i : Int) (w : World) (h0 : Came .u8 w a0 len cap T) :
    Calls Try.prog 7 #[.slice a0 len cap, .int .i64 i] w fun e w' => e = .returned (.bool true) ∧ Below w.heap.size w w' := by
  have hl0 := h0.small
  unfold maxLen at hl0
  go_enter Try.func7, Try.ntmps7
  go_wp2_with fail
  refine (bytes21 a0 len cap i w h0.small).mono ?_
  rintro e w' ⟨⟨b, rfl⟩, rfl⟩
  cases b
  · go_wp2_with fail
    go_ret
    exact ⟨rfl, Below.refl _ _⟩
  · by_cases hb0 : 1048576 < len
    · go_wp2_with fail
      go_ret
      exact ⟨rfl, Below.refl _ _⟩
    · by_cases hi0 : i < 0
      · go_wp2_with fail
        go_ret
        exact ⟨rfl, Below.refl _ _⟩
      · by_cases hi1 : (len : Int) ≤ i
        · go_wp2_with fail
          go_ret
          exact ⟨rfl, Below.refl _ _⟩
        · obtain ⟨k, rfl⟩ := Int.eq_ofNat_of_zero_le (show 0 ≤ i by omega)
          have hk : k < len := by omega
          obtain ⟨b, off, rfl, _, hcell⟩ := h0.at (by omega)
          have hck := hcell k hk
          clear hcell
          by_cases hq : T.getD k 0 = 34
          · rw [hq] at hck
            go_wp2_with fail
            refine (clone_any w' b off len cap T h0.length (by omega) (h0.cells _ rfl)).mono ?_
            rintro e w1 ⟨g, rfl, hg, hb1⟩
            have hl := h0.length
            have HT : Hid (T.length = len) := hl
            clear hl hck hq h0
            have hrow : ∀ n, n ≤ len → ∀ j, j < n → w1.cell? ⟨g, 0 + j, none⟩ = some (.int .u8 ((T.take n).getD j 0)) := fun n hn j hj => row_at hg (by have := HT.out; omega) j hj
            have hs1 := hb1.size
            go_wp2_with fail
            refine (zzskip_any w1 g 0 len len (T.take len) k (by simp [HT.out]) (hrow len (Nat.le_refl _)) (by omega) hk).mono ?_
            rw [List.take_of_length_le (by have := HT.out; omega)]
            rintro e w2 ⟨hb2, (⟨j, hj, rfl⟩ | ⟨hj, rfl⟩)⟩
            · obtain ⟨p1, p2, p3, p4, p5⟩ := ans_some T (k + 1) j hj
              obtain ⟨q, rfl⟩ : ∃ q, j = q + 1 := ⟨j - 1, by omega⟩
              simp only [Nat.add_sub_cancel] at p3 p5
              rw [HT.out] at p2
              have H4 : Hid (ans (T.take (q + 1)) (k + 1) = some (q + 1)) := p4
              have H5 : Hid (ans (T.take q) (k + 1) = none) := p5
              clear p4 p5 hj
              have hq2 : w2.cell? ⟨g, q, none⟩ = some (.int .u8 34) := by
                have h1 := hrow len (Nat.le_refl _) q (by omega)
                rw [Nat.zero_add, List.take_of_length_le (by have := HT.out; omega), p3] at h1
                exact (hb2.cell (p := ⟨g, q, none⟩) (by simpa using World.block_lt_of_cell? _ _ h1)).trans h1
              clear p3
              have hrow2 : ∀ n, n ≤ len → ∀ j, j < n → w2.cell? ⟨g, 0 + j, none⟩ = some (.int .u8 ((T.take n).getD j 0)) := fun n hn j hj =>
                (hb2.cell (p := ⟨g, 0 + j, none⟩) (by simpa using World.block_lt_of_cell? _ _ (hrow n hn j hj))).trans (hrow n hn j hj)
              have HR2 : Hid _ := hrow2
              clear hrow hrow2
              go_wp2_with fail
              refine (zzskip_any w2 g 0 (q + 1) len (T.take (q + 1)) k (by rw [List.length_take, HT.out]; omega) (HR2.out (q + 1) (by omega)) (by omega) (by omega)).mono ?_
              rintro e w3 ⟨hb3, (⟨j, hj, rfl⟩ | ⟨hj, rfl⟩)⟩
              · rw [H4.out] at hj
                obtain rfl : q + 1 = j := by simpa using hj
                have hs2 := hb2.size
                have HR3 : Hid (∀ n, n ≤ len → ∀ j, j < n → w3.cell? ⟨g, 0 + j, none⟩ = some (.int .u8 ((T.take n).getD j 0))) := fun n hn j hj =>
                  (hb3.cell (p := ⟨g, 0 + j, none⟩) (by simpa using World.block_lt_of_cell? _ _ (HR2.out n hn j hj))).trans (HR2.out n hn j hj)
                clear hj
                go_wp2_with fail
                refine (zzskip_any w3 g 0 q len (T.take q) k (by rw [List.length_take, HT.out]; omega) (HR3.out q (by omega)) (by omega) (by omega)).mono ?_
                rintro e w4 ⟨hb4, (⟨j, hj, rfl⟩ | ⟨hj, rfl⟩)⟩
                · rw [H5.out] at hj
                  cases hj
                · have hs3 := hb3.size
                  go_wp2_with fail
                  go_ret
                  exact ⟨by simp, hb1.trans ((hb2.trans ((hb3.trans (hb4.mono hs3)).mono hs2)).mono hs1)⟩
              · rw [H4.out] at hj
                cases hj
            · go_wp2_with fail
              go_ret
              exact ⟨by simp, hb1.trans (hb2.mono hs1)⟩
          · have hq' : (T.getD k 0 != 34) = true := by simpa using hq
            generalize T.getD k 0 = c at hck hq'
            clear hq h0
            go_wp2_with fail
            go_ret
            exact ⟨rfl, Below.refl _ _⟩
end Go.Proofs.Qxb6600131a
